/- Integers added: their closures' contracts. -/
import Derived.Test.YtilofbhpgcdenaaBl8
import Derived.Test.YtilofbhpgcdenaaEnc2
namespace Go.Proofs.Ytilofbhpgcdenaa
open Go.RowKit

theorem and255 (k : IntKind) (hk : k = .i64 ∨ k = .u64) (q : Int) : bits .and k q 255 = q % 256 := by
  have e1 : ((BitVec.ofInt 64 q) &&& (BitVec.ofInt 64 255)).toNat = (q % 256).toNat := by
    rw [BitVec.toNat_and]
    have h255 : (BitVec.ofInt 64 (255 : Int)).toNat = 2 ^ 8 - 1 := by decide
    rw [h255, Nat.and_two_pow_sub_one_eq_mod, BitVec.toNat_ofInt]
    simp
    omega
  have e2 : 0 ≤ q % 256 ∧ q % 256 < 256 := by omega
  rcases hk with rfl | rfl
  · show IntKind.i64.wrap (((BitVec.ofInt 64 q) &&& (BitVec.ofInt 64 255)).toNat : Int) = _
    rw [e1, Int.toNat_of_nonneg e2.1]
    exact IntWalk.i64_in _ (by omega)
  · show IntKind.u64.wrap (((BitVec.ofInt 64 q) &&& (BitVec.ofInt 64 255)).toNat : Int) = _
    rw [e1, Int.toNat_of_nonneg e2.1]
    simp [IntKind.wrap, IntKind.bits, IntKind.signed]
    omega

theorem mod3 (a : Int) : a % 256 % 256 % 256 = a % 256 := by omega

theorem signed_cont (x : Nat) (v : Int) (w : World) (base b : Nat) (vres : Value) (h0 : -9223372036854775808 ≤ v) (h1 : v ≤ 9223372036854775807) (hx : ∀ W, Only (b :: own vres) w W → Var W x 2 (.int .i64 v)) :
    ContOK w base b vres 54 #[.pointer (some ⟨x, 0, none⟩)] (some (octs v)) := by
  intro W c vc zs ho hc hb he hch hf hr hz hbase
  have hv := hx W ho
  have hcell := hv.cell
  show Calls Try.prog 54 #[.pointer (some ⟨c, 0, none⟩), .pointer (some ⟨x, 0, none⟩)] W _
  have hL := (iL_is v h0 h1).1
  have hLe := Lib.hid (fun j => iL_le v h0 h1 j)
  have HR := Lib.hid (And.intro h0 h1)
  have HB := Lib.hid (And.intro hb (And.intro he (And.intro hch (And.intro hf (And.intro hr (And.intro hz (And.intro hbase hv)))))))
  obtain ⟨L, hLL⟩ : ∃ L, iL v = L := ⟨_, rfl⟩
  rw [hLL] at hL hLe
  have HLL := Lib.hid hLL
  clear hx ho hb he hch hf hr hz hbase hv hc h0 h1 hLL
  obtain ⟨hL1, hL8⟩ := hL
  go_enter Try.func54, Try.ntmps54
  go_wp2_with fail
  go_loop [3, 4] (fun l i => ∃ j : Nat, l = .int .i64 ((j : Int) + 1) ∧ i = .int .i64 (v / 256 ^ j) ∧ j + 1 ≤ L) (fun l _ => 8 - (intOf l).toNat)
  case atStart => exact ⟨0, by simp, by simp, by omega⟩
  case round =>
    obtain ⟨j, rfl, rfl, hj⟩ := hrel
    have hle := hLe.out j
    have hrg : -9223372036854775808 ≤ v / 256 ^ j ∧ v / 256 ^ j ≤ 9223372036854775807 := by
      have hp : (0 : Int) < 256 ^ j := Int.pow_pos (by decide)
      have h := HR.out
      constructor
      · rw [Int.le_ediv_iff_mul_le hp]
        have : (1 : Int) ≤ 256 ^ j := by omega
        have h2 : (9223372036854775808 : Int) * 1 ≤ 9223372036854775808 * 256 ^ j := Int.mul_le_mul_of_nonneg_left this (by decide)
        omega
      · have : v / 256 ^ j < 9223372036854775808 := by
          rw [Int.ediv_lt_iff_lt_mul hp]
          have : (1 : Int) ≤ 256 ^ j := by omega
          have h2 : (9223372036854775808 : Int) * 1 ≤ 9223372036854775808 * 256 ^ j := Int.mul_le_mul_of_nonneg_left this (by decide)
          omega
        omega
    obtain ⟨g0, g1⟩ := hrg
    have hj8 : (j : Int) ≤ 7 := by omega
    have hnext : v / 256 ^ j / 256 = v / 256 ^ (j + 1) := by rw [Int.ediv_ediv_of_nonneg (Int.le_of_lt (Int.pow_pos (by decide))), ← Int.pow_succ]
    have HNX := Lib.hid hnext
    by_cases hlt : j + 1 < L
    · have hout : ¬ (-128 ≤ v / 256 ^ j ∧ v / 256 ^ j ≤ 127) := fun h => by have := hle.1 h; omega
      obtain ⟨q, hq⟩ : ∃ q, v / 256 ^ j = q := ⟨_, rfl⟩
      rw [hq] at g0 g1 hout ⊢
      have HQ := Lib.hid hq
      clear hq hle hnext hj
      by_cases hp : (128 : Int) ≤ q
      · clear hout
        go_wp2_with fail
        go_round
        case rel => exact ⟨j + 1, by go_num, by rw [← HNX.out, HQ.out], by omega⟩
        case measure => simp [intOf]; omega
      · have hm : q < -128 := by omega
        clear hout
        go_wp2_with fail
        go_round
        case rel => exact ⟨j + 1, by go_num, by rw [← HNX.out, HQ.out], by omega⟩
        case measure => simp [intOf]; omega
    · obtain rfl : L = j + 1 := by omega
      obtain ⟨i0, i1⟩ := hle.2 (Nat.le_refl _)
      obtain ⟨q, hq⟩ : ∃ q, v / 256 ^ j = q := ⟨_, rfl⟩
      rw [hq] at g0 g1 i0 i1 ⊢
      have t1 : ¬ (128 : Int) ≤ q := by omega
      have t2 : ¬ q < -128 := by omega
      clear hq hle hnext hj hlt
      go_wp2_with fail
      clear t1 t2 g0 g1 i0 i1
      go_loopw [3] (fun l W' => ∃ (m : Nat) (r : Value), m ≤ j + 1 ∧ l = .int .i64 ((j : Int) + 1 - m) ∧ Bld W' c { vc with res := r } ∧ Row W' base r (zs ++ bigB (v / 256 ^ (j + 1 - m)) m) ∧ Only (c :: own vc.res) W W' ∧ (r.ownBlock = vc.res.ownBlock ∨ ∀ k ∈ own r, W.heap.size ≤ k)) (fun l _ => (intOf l).toNat)
      case atStart =>
        obtain ⟨hb, he, hch, hf, hr, _⟩ := HB.out
        exact ⟨0, vc.res, Nat.zero_le _, by simp, hb, by rw [show bigB (v / 256 ^ (j + 1 - 0)) 0 = [] from rfl, List.append_nil]; exact hr, Only.refl _ _, .inl rfl⟩
      case round =>
        obtain ⟨m, r, hm, rfl, hbm, hrm, hom, hwm⟩ := hrel
        obtain ⟨hb, he, hch, hf, hr, hz, hbase, hv⟩ := HB.out
        have hxl : x ∉ c :: own vc.res := by
          simp only [List.mem_cons, not_or]
          refine ⟨?_, hr.ne hv (by decide)⟩
          rintro rfl
          have h1 : W.heap[x]? = _ := hv
          have h2 : W.heap[x]? = _ := hb
          rw [h1] at h2
          simp at h2
        have hvm := hv.only hom hxl
        have hcm := hvm.cell
        by_cases hlt2 : m < j + 1
        · obtain ⟨t, ht⟩ : ∃ t : Nat, j + 1 = m + 1 + t := ⟨j - m, by omega⟩
          have htl : (j : Int) + 1 - m = (t : Int) + 1 := by omega
          rw [htl]
          have ht7 : (t : Int) ≤ 7 := by omega
          have HT := Lib.hid (And.intro ht htl)
          have HBM := Lib.hid (And.intro hbm (And.intro hrm (And.intro hom hwm)))
          have hlw : (zs ++ bigB (v / 256 ^ (j + 1 - m)) m).length ≤ 2147483700 := by rw [List.length_append, bigB_len]; omega
          have HA := Lib.hid (fun y (hy : 0 ≤ y ∧ y ≤ 255) => BAddUint8_any c { vc with res := r } y (zs ++ bigB (v / 256 ^ (j + 1 - m)) m) wr base hbm he hch hf hrm (by have := hom.size; omega) (by omega) hy.1 hy.2)
          clear hb he hch hf hr hz hbase hv hbm hrm hom hwm hvm hlt2 hm ht htl hlw hxl
          go_wp2_with fail
          refine (HA.out (bits .and .i64 (v / 2 ^ (t * 8)) 255 % 256) ⟨by omega, by omega⟩).mono ?_
          rintro e w2 ⟨r2, rfl, h1, h2, h3, h4⟩
          have H2 := Lib.hid (And.intro h1 (And.intro h2 (And.intro h3 h4)))
          clear h1 h2 h3 h4 HA hcm
          go_wp2_with fail
          go_roundw
          case rel =>
            obtain ⟨h1, h2, h3, h4⟩ := H2.out
            obtain ⟨hbm, hrm, hom, hwm⟩ := HBM.out
            obtain ⟨ht, htl⟩ := HT.out
            obtain ⟨hb, he, hch, hf, hr, hz, hbase, hv⟩ := HB.out
            refine ⟨m + 1, r2, by omega, congrArg _ (by omega), h1, ?_, ?_, ?_⟩
            · have e1 : j + 1 - (m + 1) = t := by omega
              have e2 : j + 1 - m = t + 1 := by omega
              have e3 : bits .and .i64 (v / 2 ^ (t * 8)) 255 = v / 256 ^ t % 256 := by rw [and255 .i64 (.inl rfl), Nat.mul_comm, two_pow_eight]
              have e4 : v / 256 ^ t / 256 = v / 256 ^ (t + 1) := by rw [Int.ediv_ediv_of_nonneg (Int.le_of_lt (Int.pow_pos (by decide))), ← Int.pow_succ]
              rw [e1, bigB_succ, e4, ← e2, ← List.append_assoc]
              rw [e3, bigB_one, mod3] at h2
              exact h2
            · refine hom.then h3 ?_
              intro k hk hlt
              simp only [List.mem_cons] at hk ⊢
              rcases hk with rfl | hk
              · exact .inl rfl
              · rcases hwm with hw | hw
                · right
                  simp only [own] at hk ⊢
                  rw [← hw]
                  exact hk
                · exact absurd (hw k hk) (by omega)
            · rcases h4 with h4 | h4
              · rcases hwm with hw | hw
                · exact .inl (h4.trans hw)
                · refine .inr fun k hk => hw k ?_
                  simp only [own] at hk ⊢
                  rw [← h4]
                  exact hk
              · exact .inr fun k hk => Nat.le_trans hom.size (h4 k hk)
          case measure => simp [intOf]
        · obtain rfl : m = j + 1 := by omega
          have h0 : (j : Int) + 1 - ((j + 1 : Nat) : Int) = 0 := by omega
          rw [h0]
          rw [Nat.sub_self, Int.pow_zero, Int.ediv_one] at hrm
          have HBM := Lib.hid (And.intro hbm (And.intro hrm (And.intro hom hwm)))
          clear hb he hch hf hr hz hbase hv hbm hrm hom hwm hvm hlt2 hm hxl
          go_wp2_with fail
          go_end0
          obtain ⟨hbm, hrm, hom, hwm⟩ := HBM.out
          refine ⟨rfl, hom, r, hbm, ?_, hwm⟩
          unfold octs
          rw [HLL.out]
          exact hrm

theorem unsigned_cont (x : Nat) (v : Int) (w : World) (base b : Nat) (vres : Value) (h0 : 0 ≤ v) (h1 : v ≤ 18446744073709551615) (hx : ∀ W, Only (b :: own vres) w W → Var W x 34 (.int .u64 v)) :
    ContOK w base b vres 48 #[.pointer (some ⟨x, 0, none⟩)] (some (uocts v)) := by
  intro W c vc zs ho hc hb he hch hf hr hz hbase
  have hv := hx W ho
  have hcell := hv.cell
  show Calls Try.prog 48 #[.pointer (some ⟨c, 0, none⟩), .pointer (some ⟨x, 0, none⟩)] W _
  have hL := (uL_is v h0 h1).1
  have hLe := Lib.hid (fun j => uL_le v h0 h1 j)
  have HR := Lib.hid (And.intro h0 h1)
  have HB := Lib.hid (And.intro hb (And.intro he (And.intro hch (And.intro hf (And.intro hr (And.intro hz (And.intro hbase hv)))))))
  obtain ⟨L, hLL⟩ : ∃ L, uL v = L := ⟨_, rfl⟩
  rw [hLL] at hL hLe
  have HLL := Lib.hid hLL
  clear hx ho hb he hch hf hr hz hbase hv hc h0 h1 hLL
  obtain ⟨hL1, hL9⟩ := hL
  go_enter Try.func48, Try.ntmps48
  go_wp2_with fail
  go_loop [3, 4] (fun l i => ∃ j : Nat, l = .int .i64 ((j : Int) + 1) ∧ i = .int .u64 (v / 256 ^ j) ∧ j + 1 ≤ L) (fun l _ => 9 - (intOf l).toNat)
  case atStart => exact ⟨0, by simp, by simp, by omega⟩
  case round =>
    obtain ⟨j, rfl, rfl, hj⟩ := hrel
    have hle := hLe.out j
    have hrg : 0 ≤ v / 256 ^ j ∧ v / 256 ^ j ≤ 18446744073709551615 := by
      have hp : (0 : Int) < 256 ^ j := Int.pow_pos (by decide)
      have h := HR.out
      exact ⟨Int.ediv_nonneg h.1 (Int.le_of_lt hp), Int.le_trans (Int.ediv_le_self _ h.1) h.2⟩
    obtain ⟨g0, g1⟩ := hrg
    have hj8 : (j : Int) ≤ 8 := by omega
    have hnext : v / 256 ^ j / 256 = v / 256 ^ (j + 1) := by rw [Int.ediv_ediv_of_nonneg (Int.le_of_lt (Int.pow_pos (by decide))), ← Int.pow_succ]
    have HNX := Lib.hid hnext
    by_cases hlt : j + 1 < L
    · have hout : ¬ v / 256 ^ j < 128 := fun h => by have := hle.1 h; omega
      obtain ⟨q, hq⟩ : ∃ q, v / 256 ^ j = q := ⟨_, rfl⟩
      rw [hq] at g0 g1 hout ⊢
      have HQ := Lib.hid hq
      have hp : (128 : Int) ≤ q := by omega
      clear hq hle hnext hj hout
      go_wp2_with fail
      go_round
      case rel => exact ⟨j + 1, by go_num, by rw [← HNX.out, HQ.out], by omega⟩
      case measure => simp [intOf]; omega
    · obtain rfl : L = j + 1 := by omega
      have i1 := hle.2 (Nat.le_refl _)
      obtain ⟨q, hq⟩ : ∃ q, v / 256 ^ j = q := ⟨_, rfl⟩
      rw [hq] at g0 g1 i1 ⊢
      have t1 : ¬ (128 : Int) ≤ q := by omega
      clear hq hle hnext hj hlt
      go_wp2_with fail
      clear t1 g0 g1 i1
      go_loopw [3] (fun l W' => ∃ (m : Nat) (r : Value), m ≤ j + 1 ∧ l = .int .i64 ((j : Int) + 1 - m) ∧ Bld W' c { vc with res := r } ∧ Row W' base r (zs ++ bigB (v / 256 ^ (j + 1 - m)) m) ∧ Only (c :: own vc.res) W W' ∧ (r.ownBlock = vc.res.ownBlock ∨ ∀ k ∈ own r, W.heap.size ≤ k)) (fun l _ => (intOf l).toNat)
      case atStart =>
        obtain ⟨hb, he, hch, hf, hr, _⟩ := HB.out
        exact ⟨0, vc.res, Nat.zero_le _, by simp, hb, by rw [show bigB (v / 256 ^ (j + 1 - 0)) 0 = [] from rfl, List.append_nil]; exact hr, Only.refl _ _, .inl rfl⟩
      case round =>
        obtain ⟨m, r, hm, rfl, hbm, hrm, hom, hwm⟩ := hrel
        obtain ⟨hb, he, hch, hf, hr, hz, hbase, hv⟩ := HB.out
        have hxl : x ∉ c :: own vc.res := by
          simp only [List.mem_cons, not_or]
          refine ⟨?_, hr.ne hv (by decide)⟩
          rintro rfl
          have h1 : W.heap[x]? = _ := hv
          have h2 : W.heap[x]? = _ := hb
          rw [h1] at h2
          simp at h2
        have hvm := hv.only hom hxl
        have hcm := hvm.cell
        by_cases hlt2 : m < j + 1
        · obtain ⟨t, ht⟩ : ∃ t : Nat, j + 1 = m + 1 + t := ⟨j - m, by omega⟩
          have htl : (j : Int) + 1 - m = (t : Int) + 1 := by omega
          rw [htl]
          have ht7 : (t : Int) ≤ 8 := by omega
          have HT := Lib.hid (And.intro ht htl)
          have HBM := Lib.hid (And.intro hbm (And.intro hrm (And.intro hom hwm)))
          have hlw : (zs ++ bigB (v / 256 ^ (j + 1 - m)) m).length ≤ 2147483700 := by rw [List.length_append, bigB_len]; omega
          have HA := Lib.hid (fun y (hy : 0 ≤ y ∧ y ≤ 255) => BAddUint8_any c { vc with res := r } y (zs ++ bigB (v / 256 ^ (j + 1 - m)) m) wr base hbm he hch hf hrm (by have := hom.size; omega) (by omega) hy.1 hy.2)
          clear hb he hch hf hr hz hbase hv hbm hrm hom hwm hvm hlt2 hm ht htl hlw hxl
          go_wp2_with fail
          refine (HA.out (bits .and .u64 (v / 2 ^ (t * 8)) 255 % 256) ⟨by omega, by omega⟩).mono ?_
          rintro e w2 ⟨r2, rfl, h1, h2, h3, h4⟩
          have H2 := Lib.hid (And.intro h1 (And.intro h2 (And.intro h3 h4)))
          clear h1 h2 h3 h4 HA hcm
          go_wp2_with fail
          go_roundw
          case rel =>
            obtain ⟨h1, h2, h3, h4⟩ := H2.out
            obtain ⟨hbm, hrm, hom, hwm⟩ := HBM.out
            obtain ⟨ht, htl⟩ := HT.out
            obtain ⟨hb, he, hch, hf, hr, hz, hbase, hv⟩ := HB.out
            refine ⟨m + 1, r2, by omega, congrArg _ (by omega), h1, ?_, ?_, ?_⟩
            · have e1 : j + 1 - (m + 1) = t := by omega
              have e2 : j + 1 - m = t + 1 := by omega
              have e3 : bits .and .u64 (v / 2 ^ (t * 8)) 255 = v / 256 ^ t % 256 := by rw [and255 .u64 (.inr rfl), Nat.mul_comm, two_pow_eight]
              have e4 : v / 256 ^ t / 256 = v / 256 ^ (t + 1) := by rw [Int.ediv_ediv_of_nonneg (Int.le_of_lt (Int.pow_pos (by decide))), ← Int.pow_succ]
              rw [e1, bigB_succ, e4, ← e2, ← List.append_assoc]
              rw [e3, bigB_one, mod3] at h2
              exact h2
            · refine hom.then h3 ?_
              intro k hk hlt
              simp only [List.mem_cons] at hk ⊢
              rcases hk with rfl | hk
              · exact .inl rfl
              · rcases hwm with hw | hw
                · right
                  simp only [own] at hk ⊢
                  rw [← hw]
                  exact hk
                · exact absurd (hw k hk) (by omega)
            · rcases h4 with h4 | h4
              · rcases hwm with hw | hw
                · exact .inl (h4.trans hw)
                · refine .inr fun k hk => hw k ?_
                  simp only [own] at hk ⊢
                  rw [← h4]
                  exact hk
              · exact .inr fun k hk => Nat.le_trans hom.size (h4 k hk)
          case measure => simp [intOf]
        · obtain rfl : m = j + 1 := by omega
          have h0 : (j : Int) + 1 - ((j + 1 : Nat) : Int) = 0 := by omega
          rw [h0]
          rw [Nat.sub_self, Int.pow_zero, Int.ediv_one] at hrm
          have HBM := Lib.hid (And.intro hbm (And.intro hrm (And.intro hom hwm)))
          clear hb he hch hf hr hz hbase hv hbm hrm hom hwm hvm hlt2 hm hxl
          go_wp2_with fail
          go_end0
          obtain ⟨hbm, hrm, hom, hwm⟩ := HBM.out
          refine ⟨rfl, hom, r, hbm, ?_, hwm⟩
          unfold uocts
          rw [HLL.out]
          exact hrm

end Go.Proofs.Ytilofbhpgcdenaa
