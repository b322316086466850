/- The elements' continuations, AddASN1 and the elements, whatever came before: contracts. -/
import Derived.Test.YtndnglpehghmeaaZ4
import Derived.Test.YtndnglpehghmeaaZ1
import Derived.Test.YtndnglpehghmeaaZ2
/-! ### The elements' continuations, AddASN1 and the elements, whatever came before: contracts. -/
namespace Go.Proofs.Ytndnglpehghmeaa
open Go.RowKit

/-- What a continuation that does not panic leaves. -/
def ContR (W : World) (base c : Nat) (vc : Bv) (ys : List Int) (o : Option (List Int)) (e : Ending) (w' : World) : Prop :=
  e = .returned (.tuple #[]) ∧ Only (c :: own vc.res) W w' ∧ (match o with
   | some cs => ∃ r, Bld w' c { vc with res := r } ∧ Row w' base r (ys ++ cs) ∧ (r.ownBlock = vc.res.ownBlock ∨ ∀ k ∈ own r, W.heap.size ≤ k)
   | none => ∃ T u vc', Bld w' c vc' ∧ vc'.err = .iface T u ∧ vc'.child = .pointer none)
theorem Added.cont {W : World} {base c : Nat} {vc : Bv} {ys xs : List Int} {e : Ending} {w' : World} (h : Added W base c vc ys xs e w') : ContR W base c vc ys (some xs) e w' := by
  obtain ⟨r, rfl, h1, h2, h3, h4⟩ := h
  exact ⟨rfl, h3, r, h1, h2, h4⟩
def ofO : Option (List Int) → Res
  | some cs => .good cs
  | none => .err
theorem ContR.toP {W : World} {base c N : Nat} {vc : Bv} {ys : List Int} {o : Option (List Int)} {e : Ending} {w' : World} (h : ContR W base c vc ys o e w') : ContP W base c vc ys N (ofO o) e w' := by
  obtain ⟨h1, h2, h3⟩ := h
  refine ⟨h2, ?_⟩
  cases o with
  | none => exact ⟨h1, h3⟩
  | some cs =>
    obtain ⟨r, h4, h5, h6⟩ := h3
    exact ⟨h1, r, h4, h5, OwnLe.of h6⟩

theorem and127_all : ∀ k : Nat, k < 256 → bits .and .u8 (k : Int) 127 = (k : Int) % 128 := by decide +kernel
theorem u8_and127 (x : Int) (h0 : 0 ≤ x) (h1 : x ≤ 255) : bits .and .u8 x 127 = x % 128 := by
  obtain ⟨k, rfl⟩ := Int.eq_ofNat_of_zero_le h0
  exact and127_all k (by omega)
theorem or128_all : ∀ k : Nat, k < 128 → bits .or .u8 (k : Int) 128 = 128 + (k : Int) := by decide +kernel
theorem u8_or128 (x : Int) (h0 : 0 ≤ x) (h1 : x < 128) : bits .or .u8 x 128 = 128 + x := by
  obtain ⟨k, rfl⟩ := Int.eq_ofNat_of_zero_le h0
  exact or128_all k (by omega)

/-- The digits of the first rounds. -/
def digs (n : Int) (L m : Nat) : List Int := if m < L then big7 (n / 128 ^ (L - m)) m else b128 n
theorem digs_zero {n : Int} {L : Nat} (h : 1 ≤ L) : digs n L 0 = [] := by unfold digs; rw [if_pos (by omega)]; rfl
theorem digs_all {n : Int} {L : Nat} (_h : l7 n = L) : digs n L L = b128 n := by unfold digs; rw [if_neg (by omega)]
theorem digs_last {n : Int} {L m : Nat} (h : L = m + 1) (hL : l7 n = L) : digs n L (m + 1) = digs n L m ++ [n % 128] := by
  subst h
  unfold digs
  rw [if_neg (by omega), if_pos (by omega), show m + 1 - m = 1 by omega, Int.pow_succ, Int.pow_zero, Int.one_mul]
  unfold b128
  rw [hL]
  rfl
theorem digs_step {n : Int} {L m t : Nat} (h : L = m + 1 + t) (ht : 0 < t) : digs n L (m + 1) = digs n L m ++ [128 + n / 128 ^ t % 128] := by
  subst h
  unfold digs
  rw [if_pos (by omega), if_pos (by omega), show m + 1 + t - (m + 1) = t by omega, show m + 1 + t - m = t + 1 by omega, big7_succ, Int.ediv_ediv_of_nonneg (Int.le_of_lt (Int.pow_pos (by decide))), ← Int.pow_succ]
theorem digs_len {n : Int} {L : Nat} (m : Nat) (hm : m ≤ L) (h : l7 n = L) : (digs n L m).length = m := by
  unfold digs
  split
  · exact big7_len _ _
  · rw [b128_len]; omega

theorem BaddBase128_any (b : Nat) (v : Bv) (n : Int) (ys : List Int) (w : World) (base : Nat) (h : Bld w b v) (he : v.err = .nilIface) (hch : v.child = .pointer none) (hf : v.fixed = false) (hr : Row w base v.res ys) (hb : base ≤ w.heap.size) (hl : ys.length ≤ 4294967295) (h0 : 0 ≤ n) (h1 : n ≤ 4294967295) :
    Calls Try.prog 65 #[.pointer (some ⟨b, 0, none⟩), .int .i64 n] w (Added w base b v ys (b128 n)) := by
  have hL := l7_bd n
  have hLe := Lib.hid (fun j hj => l7_le n h0 (by omega) j hj)
  have HR := Lib.hid (And.intro h0 h1)
  have HB := Lib.hid (And.intro h (And.intro he (And.intro hch (And.intro hf (And.intro hr (And.intro hb hl))))))
  obtain ⟨L, hLL⟩ : ∃ L, l7 n = L := ⟨_, rfl⟩
  rw [hLL] at hL hLe
  have HLL := Lib.hid hLL
  clear h he hch hf hr hb hl hLL
  by_cases hz : n = 0
  · have HL1 : Hid (L = 1) := Lib.hid (by rw [← HLL.out, hz]; rfl)
    have hn0 : (n == 0) = true := by simpa using hz
    clear hz hLe
    go_enter Try.func65, Try.ntmps65
    go_wp2_with fail
    go_loopw [6] (fun i W' => ∃ (m : Nat) (r : Value), m ≤ L ∧ i = .int .i64 ((L : Int) - 1 - m) ∧ Bld W' b { v with res := r } ∧ Row W' base r (ys ++ digs n L m) ∧ Only (b :: own v.res) w W' ∧ (r.ownBlock = v.res.ownBlock ∨ ∀ k ∈ own r, w.heap.size ≤ k)) (fun i _ => (intOf i + 1).toNat)
    case atStart =>
      obtain ⟨h, he, hch, hf, hr, hb, hl⟩ := HB.out
      exact ⟨0, v.res, Nat.zero_le _, by rw [HL1.out]; rfl, h, by rw [digs_zero hL.1, List.append_nil]; exact hr, Only.refl _ _, .inl rfl⟩
    case round =>
      obtain ⟨m, r, hm, rfl, hbm, hrm, hom, hwm⟩ := hrel
      obtain ⟨h, he, hch, hf, hr, hb, hl⟩ := HB.out
      by_cases hlt : m < L
      · obtain ⟨t, ht⟩ : ∃ t : Nat, L = m + 1 + t := ⟨L - m - 1, by omega⟩
        have hit : (L : Int) - 1 - m = (t : Int) := by omega
        rw [hit]
        have ht4 : (t : Int) ≤ 4 := by omega
        have HT := Lib.hid (And.intro ht hit)
        have HBM := Lib.hid (And.intro hom hwm)
        have hdl : (digs n L m).length ≤ 5 := by rw [digs_len m (by omega) HLL.out]; omega
        have HA := Lib.hid (fun Z (hx : Byt Z) (h1 : Z.length ≤ 1) => Badd_lit b { v with res := r } (ys ++ digs n L m) Z wr base hbm he hch hf hrm (by have := hom.size; omega) hx (by rw [List.length_append]; omega))
        obtain ⟨d, hd⟩ : ∃ d, n / 128 ^ t % 128 = d := ⟨_, rfl⟩
        have hd0 : 0 ≤ d ∧ d < 128 := by omega
        have hsh : bits .and .u8 (n / 2 ^ (t * 7) % 256) 127 = d := by
          rw [u8_and127 _ (by omega) (by omega), Nat.mul_comm, Int.pow_mul, ← hd]
          show n / 128 ^ t % 256 % 128 = _
          omega
        have hor : bits .or .u8 d 128 = 128 + d := u8_or128 d hd0.1 hd0.2
        have HD := Lib.hid (And.intro hd hd0)
        clear h he hch hf hr hb hl hbm hrm hom hwm hlt hm ht hit hdl hd hd0
        rcases Nat.eq_zero_or_pos t with ht0 | ht0
        · subst ht0
          clear hor
          have hsh0 : bits .and .u8 (n % 256) 127 = d := by
            have h := hsh
            rw [Nat.zero_mul, Int.pow_zero, Int.ediv_one] at h
            exact h
          go_wp2_with fail
          refine (HA.out [d] (by intro y hy; simp only [List.mem_singleton] at hy; have := HD.out.2; omega) (by simp)).mono ?_
          rintro e w2 ⟨r2, rfl, h1, h2, h3, h4⟩
          have H2 := Lib.hid (And.intro h1 (And.intro h2 (And.intro h3 h4)))
          clear h1 h2 h3 h4 HA
          go_wp2_with fail
          go_roundw
          case rel =>
            obtain ⟨h1, h2, h3, h4⟩ := H2.out
            obtain ⟨hom, hwm⟩ := HBM.out
            obtain ⟨ht, hit⟩ := HT.out
            refine ⟨m + 1, r2, by omega, congrArg _ (by omega), h1, ?_, hom.then h3 ?_, ?_⟩
            · rw [digs_last (by omega) HLL.out, show n % 128 = d by rw [← HD.out.1, Int.pow_zero, Int.ediv_one], ← List.append_assoc]
              exact h2
            · intro k hk hlt
              simp only [List.mem_cons] at hk ⊢
              rcases hk with rfl | hk
              · exact .inl rfl
              · rcases hwm with hw | hw
                · right
                  simp only [own] at hk ⊢
                  rw [← hw]
                  exact hk
                · exact absurd (hw k hk) (by omega)
            · rcases h4 with h4 | h4
              · rcases hwm with hw | hw
                · exact .inl (h4.trans hw)
                · refine .inr fun k hk => hw k ?_
                  simp only [own] at hk ⊢
                  rw [← h4]
                  exact hk
              · exact .inr fun k hk => Nat.le_trans hom.size (h4 k hk)
          case measure => simp [intOf]
        · go_wp2_with fail
          refine (HA.out [128 + d] (by intro y hy; simp only [List.mem_singleton] at hy; have := HD.out.2; omega) (by simp)).mono ?_
          rintro e w2 ⟨r2, rfl, h1, h2, h3, h4⟩
          have H2 := Lib.hid (And.intro h1 (And.intro h2 (And.intro h3 h4)))
          clear h1 h2 h3 h4 HA
          go_wp2_with fail
          go_roundw
          case rel =>
            obtain ⟨h1, h2, h3, h4⟩ := H2.out
            obtain ⟨hom, hwm⟩ := HBM.out
            obtain ⟨ht, hit⟩ := HT.out
            refine ⟨m + 1, r2, by omega, congrArg _ (by omega), h1, ?_, hom.then h3 ?_, ?_⟩
            · rw [digs_step ht ht0, HD.out.1, ← List.append_assoc]
              exact h2
            · intro k hk hlt
              simp only [List.mem_cons] at hk ⊢
              rcases hk with rfl | hk
              · exact .inl rfl
              · rcases hwm with hw | hw
                · right
                  simp only [own] at hk ⊢
                  rw [← hw]
                  exact hk
                · exact absurd (hw k hk) (by omega)
            · rcases h4 with h4 | h4
              · rcases hwm with hw | hw
                · exact .inl (h4.trans hw)
                · refine .inr fun k hk => hw k ?_
                  simp only [own] at hk ⊢
                  rw [← h4]
                  exact hk
              · exact .inr fun k hk => Nat.le_trans hom.size (h4 k hk)
          case measure => simp [intOf]
      · obtain rfl : m = L := by omega
        have hi : (m : Int) - 1 - (m : Int) = -1 := by omega
        rw [hi]
        rw [digs_all HLL.out] at hrm
        have HF := Lib.hid (And.intro hbm (And.intro hrm (And.intro hom hwm)))
        clear h he hch hf hr hb hl hbm hrm hom hwm hlt hm hi
        go_wp2_with fail
        go_end0
        exact ⟨r, rfl, HF.out.1, HF.out.2.1, HF.out.2.2.1, HF.out.2.2.2⟩
  · skip
    have hn0 : (n == 0) = false := by simpa using (by omega : n ≠ 0)
    go_enter Try.func65, Try.ntmps65
    go_wp2_with fail
    go_loop [4, 5] (fun l i => ∃ j : Nat, l = .int .i64 (j : Int) ∧ i = .int .i64 (n / 128 ^ j) ∧ j ≤ L) (fun _ i => (intOf i).toNat)
    case atStart => exact ⟨0, by simp, by simp, by omega⟩
    case round =>
      obtain ⟨j, rfl, rfl, hj⟩ := hrel
      have hp : (0 : Int) < 128 ^ j := Int.pow_pos (by decide)
      have g0 : 0 ≤ n / 128 ^ j := Int.ediv_nonneg h0 (Int.le_of_lt hp)
      have g1 : n / 128 ^ j ≤ 4294967295 := Int.le_trans (Int.ediv_le_self _ h0) h1
      have hnext : n / 128 ^ j / 128 = n / 128 ^ (j + 1) := by rw [Int.ediv_ediv_of_nonneg (Int.le_of_lt hp), ← Int.pow_succ]
      have HNX := Lib.hid hnext
      have hj5 : (j : Int) ≤ 5 := by omega
      by_cases hlt : j < L
      · have hpos : 0 < n / 128 ^ j := by
          rcases Nat.eq_zero_or_pos j with e | e
          · subst e
            rw [Int.pow_zero, Int.ediv_one]
            have : n ≠ 0 := by simpa using hn0
            omega
          · obtain ⟨k, rfl⟩ : ∃ k, j = k + 1 := ⟨j - 1, by omega⟩
            have := (hLe.out k (by omega)).1
            rcases Int.lt_or_eq_of_le g0 with h | h
            · exact h
            · have := this h.symm
              omega
        obtain ⟨q, hq⟩ : ∃ q, n / 128 ^ j = q := ⟨_, rfl⟩
        rw [hq] at g0 g1 hpos ⊢
        have HQ := Lib.hid hq
        clear hq hnext hj hp
        go_wp2_with fail
        go_round
        case rel => exact ⟨j + 1, by go_num, by rw [← HNX.out, HQ.out], by omega⟩
        case measure => simp [intOf]; omega
      · obtain rfl : j = L := by omega
        have hzero : n / 128 ^ j = 0 := by
          obtain ⟨k, rfl⟩ : ∃ k, j = k + 1 := ⟨j - 1, by omega⟩
          exact (hLe.out k (by omega)).2 (Nat.le_refl _)
        rw [hzero]
        clear hzero hnext hj hp hlt g0 g1
        go_wp2_with fail
        go_loopw [6] (fun i W' => ∃ (m : Nat) (r : Value), m ≤ j ∧ i = .int .i64 ((j : Int) - 1 - m) ∧ Bld W' b { v with res := r } ∧ Row W' base r (ys ++ digs n j m) ∧ Only (b :: own v.res) w W' ∧ (r.ownBlock = v.res.ownBlock ∨ ∀ k ∈ own r, w.heap.size ≤ k)) (fun i _ => (intOf i + 1).toNat)
        case atStart =>
          obtain ⟨h, he, hch, hf, hr, hb, hl⟩ := HB.out
          exact ⟨0, v.res, Nat.zero_le _, by simp, h, by rw [digs_zero hL.1, List.append_nil]; exact hr, Only.refl _ _, .inl rfl⟩
        case round =>
          obtain ⟨m, r, hm, rfl, hbm, hrm, hom, hwm⟩ := hrel
          obtain ⟨h, he, hch, hf, hr, hb, hl⟩ := HB.out
          by_cases hlt : m < j
          · obtain ⟨t, ht⟩ : ∃ t : Nat, j = m + 1 + t := ⟨j - m - 1, by omega⟩
            have hit : (j : Int) - 1 - m = (t : Int) := by omega
            rw [hit]
            have ht4 : (t : Int) ≤ 4 := by omega
            have HT := Lib.hid (And.intro ht hit)
            have HBM := Lib.hid (And.intro hom hwm)
            have hdl : (digs n j m).length ≤ 5 := by rw [digs_len m (by omega) HLL.out]; omega
            have HA := Lib.hid (fun L (hx : Byt L) (h1 : L.length ≤ 1) => Badd_lit b { v with res := r } (ys ++ digs n j m) L wr base hbm he hch hf hrm (by have := hom.size; omega) hx (by rw [List.length_append]; omega))
            obtain ⟨d, hd⟩ : ∃ d, n / 128 ^ t % 128 = d := ⟨_, rfl⟩
            have hd0 : 0 ≤ d ∧ d < 128 := by omega
            have hsh : bits .and .u8 (n / 2 ^ (t * 7) % 256) 127 = d := by
              rw [u8_and127 _ (by omega) (by omega), Nat.mul_comm, Int.pow_mul, ← hd]
              show n / 128 ^ t % 256 % 128 = _
              omega
            have hor : bits .or .u8 d 128 = 128 + d := u8_or128 d hd0.1 hd0.2
            have HD := Lib.hid (And.intro hd hd0)
            clear h he hch hf hr hb hl hbm hrm hom hwm hlt hm ht hit hdl hd hd0
            rcases Nat.eq_zero_or_pos t with ht0 | ht0
            · subst ht0
              clear hor
              have hsh0 : bits .and .u8 (n % 256) 127 = d := by
                have h := hsh
                rw [Nat.zero_mul, Int.pow_zero, Int.ediv_one] at h
                exact h
              go_wp2_with fail
              refine (HA.out [d] (by intro y hy; simp only [List.mem_singleton] at hy; have := HD.out.2; omega) (by simp)).mono ?_
              rintro e w2 ⟨r2, rfl, h1, h2, h3, h4⟩
              have H2 := Lib.hid (And.intro h1 (And.intro h2 (And.intro h3 h4)))
              clear h1 h2 h3 h4 HA
              go_wp2_with fail
              go_roundw
              case rel =>
                obtain ⟨h1, h2, h3, h4⟩ := H2.out
                obtain ⟨hom, hwm⟩ := HBM.out
                obtain ⟨ht, hit⟩ := HT.out
                refine ⟨m + 1, r2, by omega, congrArg _ (by omega), h1, ?_, hom.then h3 ?_, ?_⟩
                · rw [digs_last (by omega) HLL.out, show n % 128 = d by rw [← HD.out.1, Int.pow_zero, Int.ediv_one], ← List.append_assoc]
                  exact h2
                · intro k hk hlt
                  simp only [List.mem_cons] at hk ⊢
                  rcases hk with rfl | hk
                  · exact .inl rfl
                  · rcases hwm with hw | hw
                    · right
                      simp only [own] at hk ⊢
                      rw [← hw]
                      exact hk
                    · exact absurd (hw k hk) (by omega)
                · rcases h4 with h4 | h4
                  · rcases hwm with hw | hw
                    · exact .inl (h4.trans hw)
                    · refine .inr fun k hk => hw k ?_
                      simp only [own] at hk ⊢
                      rw [← h4]
                      exact hk
                  · exact .inr fun k hk => Nat.le_trans hom.size (h4 k hk)
              case measure => simp [intOf]
            · go_wp2_with fail
              refine (HA.out [128 + d] (by intro y hy; simp only [List.mem_singleton] at hy; have := HD.out.2; omega) (by simp)).mono ?_
              rintro e w2 ⟨r2, rfl, h1, h2, h3, h4⟩
              have H2 := Lib.hid (And.intro h1 (And.intro h2 (And.intro h3 h4)))
              clear h1 h2 h3 h4 HA
              go_wp2_with fail
              go_roundw
              case rel =>
                obtain ⟨h1, h2, h3, h4⟩ := H2.out
                obtain ⟨hom, hwm⟩ := HBM.out
                obtain ⟨ht, hit⟩ := HT.out
                refine ⟨m + 1, r2, by omega, congrArg _ (by omega), h1, ?_, hom.then h3 ?_, ?_⟩
                · rw [digs_step ht ht0, HD.out.1, ← List.append_assoc]
                  exact h2
                · intro k hk hlt
                  simp only [List.mem_cons] at hk ⊢
                  rcases hk with rfl | hk
                  · exact .inl rfl
                  · rcases hwm with hw | hw
                    · right
                      simp only [own] at hk ⊢
                      rw [← hw]
                      exact hk
                    · exact absurd (hw k hk) (by omega)
                · rcases h4 with h4 | h4
                  · rcases hwm with hw | hw
                    · exact .inl (h4.trans hw)
                    · refine .inr fun k hk => hw k ?_
                      simp only [own] at hk ⊢
                      rw [← h4]
                      exact hk
                  · exact .inr fun k hk => Nat.le_trans hom.size (h4 k hk)
              case measure => simp [intOf]
          · obtain rfl : m = j := by omega
            have hi : (m : Int) - 1 - (m : Int) = -1 := by omega
            rw [hi]
            rw [digs_all HLL.out] at hrm
            have HF := Lib.hid (And.intro hbm (And.intro hrm (And.intro hom hwm)))
            clear h he hch hf hr hb hl hbm hrm hom hwm hlt hm hi
            go_wp2_with fail
            go_end0
            exact ⟨r, rfl, HF.out.1, HF.out.2.1, HF.out.2.2.1, HF.out.2.2.2⟩
theorem and255 (k : IntKind) (hk : k = .i64 ∨ k = .u64) (q : Int) : bits .and k q 255 = q % 256 := by
  have e1 : ((BitVec.ofInt 64 q) &&& (BitVec.ofInt 64 255)).toNat = (q % 256).toNat := by
    rw [BitVec.toNat_and]
    have h255 : (BitVec.ofInt 64 (255 : Int)).toNat = 2 ^ 8 - 1 := by decide
    rw [h255, Nat.and_two_pow_sub_one_eq_mod, BitVec.toNat_ofInt]
    simp
    omega
  have e2 : 0 ≤ q % 256 ∧ q % 256 < 256 := by omega
  rcases hk with rfl | rfl
  · show IntKind.i64.wrap (((BitVec.ofInt 64 q) &&& (BitVec.ofInt 64 255)).toNat : Int) = _
    rw [e1, Int.toNat_of_nonneg e2.1]
    exact IntWalk.i64_in _ (by omega)
  · show IntKind.u64.wrap (((BitVec.ofInt 64 q) &&& (BitVec.ofInt 64 255)).toNat : Int) = _
    rw [e1, Int.toNat_of_nonneg e2.1]
    simp [IntKind.wrap, IntKind.bits, IntKind.signed]
    omega

theorem mod3 (a : Int) : a % 256 % 256 % 256 = a % 256 := by omega

theorem bool_cont (x : Nat) (v : Bool) (w : World) (base : Nat) (L : List Nat) (K : Nat) (hx : ∀ W, Only L w W → Var W x 4 (.bool v)) :
    ContOKP w base L 58 #[.pointer (some ⟨x, 0, none⟩)] K (ofO (some [if v then 255 else 0])) := by
  intro W c vc zs bi ho hc hb he hch hf hr hz0 hbase hbinc hbiv hbown _
  have hz : zs.length ≤ 2147483660 := by omega
  clear hz0 hbinc hbiv
  refine Calls.mono ?_ (fun e w' h => ContR.toP h)
  have hv := hx W ho
  have hcell := hv.cell
  show Calls Try.prog 58 #[.pointer (some ⟨c, 0, none⟩), .pointer (some ⟨x, 0, none⟩)] W _
  have H2 := Lib.hid (fun y (hy : 0 ≤ y ∧ y ≤ 255) => BAddUint8_any c vc y zs W base hb he hch hf hr hbase (by omega) hy.1 hy.2)
  clear hbown hx ho hb he hch hf hr hz hv hc hbase
  cases v with
  | true =>
    go_enter Try.func58, Try.ntmps58
    go_wp2_with fail
    refine (H2.out 255 (by decide)).mono ?_
    intro e w3 h
    have HQ : Hid (ContR W base c vc zs (some [255]) e w3) := Lib.hid h.cont
    obtain ⟨r, rfl, _⟩ := h
    clear H2
    go_wp2_with fail
    go_end0
    exact HQ.out
  | false =>
    go_enter Try.func58, Try.ntmps58
    go_wp2_with fail
    refine (H2.out 0 (by decide)).mono ?_
    intro e w3 h
    have HQ : Hid (ContR W base c vc zs (some [0]) e w3) := Lib.hid h.cont
    obtain ⟨r, rfl, _⟩ := h
    clear H2
    go_wp2_with fail
    go_end0
    exact HQ.out

theorem signed_cont (x : Nat) (v : Int) (w : World) (base : Nat) (L : List Nat) (K : Nat) (h0 : -9223372036854775808 ≤ v) (h1 : v ≤ 9223372036854775807) (hx : ∀ W, Only L w W → Var W x 2 (.int .i64 v)) :
    ContOKP w base L 71 #[.pointer (some ⟨x, 0, none⟩)] K (ofO (some (octs v))) := by
  intro W c vc zs bi ho hc hb he hch hf hr hz0 hbase hbinc hbiv hbown _
  have hz : zs.length ≤ 2147483660 := by omega
  clear hz0 hbinc hbiv
  refine Calls.mono ?_ (fun e w' h => ContR.toP h)
  have hv := hx W ho
  have hcell := hv.cell
  show Calls Try.prog 71 #[.pointer (some ⟨c, 0, none⟩), .pointer (some ⟨x, 0, none⟩)] W _
  have hL := (iL_is v h0 h1).1
  have hLe := Lib.hid (fun j => iL_le v h0 h1 j)
  have HR := Lib.hid (And.intro h0 h1)
  have HB := Lib.hid (And.intro hb (And.intro he (And.intro hch (And.intro hf (And.intro hr (And.intro hz (And.intro hbase hv)))))))
  obtain ⟨L, hLL⟩ : ∃ L, iL v = L := ⟨_, rfl⟩
  rw [hLL] at hL hLe
  have HLL := Lib.hid hLL
  clear hbown hx ho hb he hch hf hr hz hbase hv hc h0 h1 hLL
  obtain ⟨hL1, hL8⟩ := hL
  go_enter Try.func71, Try.ntmps71
  go_wp2_with fail
  go_loop [3, 4] (fun l i => ∃ j : Nat, l = .int .i64 ((j : Int) + 1) ∧ i = .int .i64 (v / 256 ^ j) ∧ j + 1 ≤ L) (fun l _ => 8 - (intOf l).toNat)
  case atStart => exact ⟨0, by simp, by simp, by omega⟩
  case round =>
    obtain ⟨j, rfl, rfl, hj⟩ := hrel
    have hle := hLe.out j
    have hrg : -9223372036854775808 ≤ v / 256 ^ j ∧ v / 256 ^ j ≤ 9223372036854775807 := by
      have hp : (0 : Int) < 256 ^ j := Int.pow_pos (by decide)
      have h := HR.out
      constructor
      · rw [Int.le_ediv_iff_mul_le hp]
        have : (1 : Int) ≤ 256 ^ j := by omega
        have h2 : (9223372036854775808 : Int) * 1 ≤ 9223372036854775808 * 256 ^ j := Int.mul_le_mul_of_nonneg_left this (by decide)
        omega
      · have : v / 256 ^ j < 9223372036854775808 := by
          rw [Int.ediv_lt_iff_lt_mul hp]
          have : (1 : Int) ≤ 256 ^ j := by omega
          have h2 : (9223372036854775808 : Int) * 1 ≤ 9223372036854775808 * 256 ^ j := Int.mul_le_mul_of_nonneg_left this (by decide)
          omega
        omega
    obtain ⟨g0, g1⟩ := hrg
    have hj8 : (j : Int) ≤ 7 := by omega
    have hnext : v / 256 ^ j / 256 = v / 256 ^ (j + 1) := by rw [Int.ediv_ediv_of_nonneg (Int.le_of_lt (Int.pow_pos (by decide))), ← Int.pow_succ]
    have HNX := Lib.hid hnext
    by_cases hlt : j + 1 < L
    · have hout : ¬ (-128 ≤ v / 256 ^ j ∧ v / 256 ^ j ≤ 127) := fun h => by have := hle.1 h; omega
      obtain ⟨q, hq⟩ : ∃ q, v / 256 ^ j = q := ⟨_, rfl⟩
      rw [hq] at g0 g1 hout ⊢
      have HQ := Lib.hid hq
      clear hq hle hnext hj
      by_cases hp : (128 : Int) ≤ q
      · clear hout
        go_wp2_with fail
        go_round
        case rel => exact ⟨j + 1, by go_num, by rw [← HNX.out, HQ.out], by omega⟩
        case measure => simp [intOf]; omega
      · have hm : q < -128 := by omega
        clear hout
        go_wp2_with fail
        go_round
        case rel => exact ⟨j + 1, by go_num, by rw [← HNX.out, HQ.out], by omega⟩
        case measure => simp [intOf]; omega
    · obtain rfl : L = j + 1 := by omega
      obtain ⟨i0, i1⟩ := hle.2 (Nat.le_refl _)
      obtain ⟨q, hq⟩ : ∃ q, v / 256 ^ j = q := ⟨_, rfl⟩
      rw [hq] at g0 g1 i0 i1 ⊢
      have t1 : ¬ (128 : Int) ≤ q := by omega
      have t2 : ¬ q < -128 := by omega
      clear hq hle hnext hj hlt
      go_wp2_with fail
      clear t1 t2 g0 g1 i0 i1
      go_loopw [3] (fun l W' => ∃ (m : Nat) (r : Value), m ≤ j + 1 ∧ l = .int .i64 ((j : Int) + 1 - m) ∧ Bld W' c { vc with res := r } ∧ Row W' base r (zs ++ bigB (v / 256 ^ (j + 1 - m)) m) ∧ Only (c :: own vc.res) W W' ∧ (r.ownBlock = vc.res.ownBlock ∨ ∀ k ∈ own r, W.heap.size ≤ k)) (fun l _ => (intOf l).toNat)
      case atStart =>
        obtain ⟨hb, he, hch, hf, hr, _⟩ := HB.out
        exact ⟨0, vc.res, Nat.zero_le _, by simp, hb, by rw [show bigB (v / 256 ^ (j + 1 - 0)) 0 = [] from rfl, List.append_nil]; exact hr, Only.refl _ _, .inl rfl⟩
      case round =>
        obtain ⟨m, r, hm, rfl, hbm, hrm, hom, hwm⟩ := hrel
        obtain ⟨hb, he, hch, hf, hr, hz, hbase, hv⟩ := HB.out
        have hxl : x ∉ c :: own vc.res := by
          simp only [List.mem_cons, not_or]
          refine ⟨?_, hr.ne hv (by decide)⟩
          rintro rfl
          have h1 : W.heap[x]? = _ := hv
          have h2 : W.heap[x]? = _ := hb
          rw [h1] at h2
          simp at h2
        have hvm := hv.only hom hxl
        have hcm := hvm.cell
        by_cases hlt2 : m < j + 1
        · obtain ⟨t, ht⟩ : ∃ t : Nat, j + 1 = m + 1 + t := ⟨j - m, by omega⟩
          have htl : (j : Int) + 1 - m = (t : Int) + 1 := by omega
          rw [htl]
          have ht7 : (t : Int) ≤ 7 := by omega
          have HT := Lib.hid (And.intro ht htl)
          have HBM := Lib.hid (And.intro hbm (And.intro hrm (And.intro hom hwm)))
          have hlw : (zs ++ bigB (v / 256 ^ (j + 1 - m)) m).length ≤ 2147483700 := by rw [List.length_append, bigB_len]; omega
          have HA := Lib.hid (fun y (hy : 0 ≤ y ∧ y ≤ 255) => BAddUint8_any c { vc with res := r } y (zs ++ bigB (v / 256 ^ (j + 1 - m)) m) wr base hbm he hch hf hrm (by have := hom.size; omega) (by omega) hy.1 hy.2)
          clear hb he hch hf hr hz hbase hv hbm hrm hom hwm hvm hlt2 hm ht htl hlw hxl
          go_wp2_with fail
          refine (HA.out (bits .and .i64 (v / 2 ^ (t * 8)) 255 % 256) ⟨by omega, by omega⟩).mono ?_
          rintro e w2 ⟨r2, rfl, h1, h2, h3, h4⟩
          have H2 := Lib.hid (And.intro h1 (And.intro h2 (And.intro h3 h4)))
          clear h1 h2 h3 h4 HA hcm
          go_wp2_with fail
          go_roundw
          case rel =>
            obtain ⟨h1, h2, h3, h4⟩ := H2.out
            obtain ⟨hbm, hrm, hom, hwm⟩ := HBM.out
            obtain ⟨ht, htl⟩ := HT.out
            obtain ⟨hb, he, hch, hf, hr, hz, hbase, hv⟩ := HB.out
            refine ⟨m + 1, r2, by omega, congrArg _ (by omega), h1, ?_, ?_, ?_⟩
            · have e1 : j + 1 - (m + 1) = t := by omega
              have e2 : j + 1 - m = t + 1 := by omega
              have e3 : bits .and .i64 (v / 2 ^ (t * 8)) 255 = v / 256 ^ t % 256 := by rw [and255 .i64 (.inl rfl), Nat.mul_comm, two_pow_eight]
              have e4 : v / 256 ^ t / 256 = v / 256 ^ (t + 1) := by rw [Int.ediv_ediv_of_nonneg (Int.le_of_lt (Int.pow_pos (by decide))), ← Int.pow_succ]
              rw [e1, bigB_succ, e4, ← e2, ← List.append_assoc]
              rw [e3, bigB_one, mod3] at h2
              exact h2
            · refine hom.then h3 ?_
              intro k hk hlt
              simp only [List.mem_cons] at hk ⊢
              rcases hk with rfl | hk
              · exact .inl rfl
              · rcases hwm with hw | hw
                · right
                  simp only [own] at hk ⊢
                  rw [← hw]
                  exact hk
                · exact absurd (hw k hk) (by omega)
            · rcases h4 with h4 | h4
              · rcases hwm with hw | hw
                · exact .inl (h4.trans hw)
                · refine .inr fun k hk => hw k ?_
                  simp only [own] at hk ⊢
                  rw [← h4]
                  exact hk
              · exact .inr fun k hk => Nat.le_trans hom.size (h4 k hk)
          case measure => simp [intOf]
        · obtain rfl : m = j + 1 := by omega
          have h0 : (j : Int) + 1 - ((j + 1 : Nat) : Int) = 0 := by omega
          rw [h0]
          rw [Nat.sub_self, Int.pow_zero, Int.ediv_one] at hrm
          have HBM := Lib.hid (And.intro hbm (And.intro hrm (And.intro hom hwm)))
          clear hb he hch hf hr hz hbase hv hbm hrm hom hwm hvm hlt2 hm hxl
          go_wp2_with fail
          go_end0
          obtain ⟨hbm, hrm, hom, hwm⟩ := HBM.out
          refine ⟨rfl, hom, r, hbm, ?_, hwm⟩
          unfold octs
          rw [HLL.out]
          exact hrm

theorem unsigned_cont (x : Nat) (v : Int) (w : World) (base : Nat) (L : List Nat) (K : Nat) (h0 : 0 ≤ v) (h1 : v ≤ 18446744073709551615) (hx : ∀ W, Only L w W → Var W x 66 (.int .u64 v)) :
    ContOKP w base L 60 #[.pointer (some ⟨x, 0, none⟩)] K (ofO (some (uocts v))) := by
  intro W c vc zs bi ho hc hb he hch hf hr hz0 hbase hbinc hbiv hbown _
  have hz : zs.length ≤ 2147483660 := by omega
  clear hz0 hbinc hbiv
  refine Calls.mono ?_ (fun e w' h => ContR.toP h)
  have hv := hx W ho
  have hcell := hv.cell
  show Calls Try.prog 60 #[.pointer (some ⟨c, 0, none⟩), .pointer (some ⟨x, 0, none⟩)] W _
  have hL := (uL_is v h0 h1).1
  have hLe := Lib.hid (fun j => uL_le v h0 h1 j)
  have HR := Lib.hid (And.intro h0 h1)
  have HB := Lib.hid (And.intro hb (And.intro he (And.intro hch (And.intro hf (And.intro hr (And.intro hz (And.intro hbase hv)))))))
  obtain ⟨L, hLL⟩ : ∃ L, uL v = L := ⟨_, rfl⟩
  rw [hLL] at hL hLe
  have HLL := Lib.hid hLL
  clear hbown hx ho hb he hch hf hr hz hbase hv hc h0 h1 hLL
  obtain ⟨hL1, hL9⟩ := hL
  go_enter Try.func60, Try.ntmps60
  go_wp2_with fail
  go_loop [3, 4] (fun l i => ∃ j : Nat, l = .int .i64 ((j : Int) + 1) ∧ i = .int .u64 (v / 256 ^ j) ∧ j + 1 ≤ L) (fun l _ => 9 - (intOf l).toNat)
  case atStart => exact ⟨0, by simp, by simp, by omega⟩
  case round =>
    obtain ⟨j, rfl, rfl, hj⟩ := hrel
    have hle := hLe.out j
    have hrg : 0 ≤ v / 256 ^ j ∧ v / 256 ^ j ≤ 18446744073709551615 := by
      have hp : (0 : Int) < 256 ^ j := Int.pow_pos (by decide)
      have h := HR.out
      exact ⟨Int.ediv_nonneg h.1 (Int.le_of_lt hp), Int.le_trans (Int.ediv_le_self _ h.1) h.2⟩
    obtain ⟨g0, g1⟩ := hrg
    have hj8 : (j : Int) ≤ 8 := by omega
    have hnext : v / 256 ^ j / 256 = v / 256 ^ (j + 1) := by rw [Int.ediv_ediv_of_nonneg (Int.le_of_lt (Int.pow_pos (by decide))), ← Int.pow_succ]
    have HNX := Lib.hid hnext
    by_cases hlt : j + 1 < L
    · have hout : ¬ v / 256 ^ j < 128 := fun h => by have := hle.1 h; omega
      obtain ⟨q, hq⟩ : ∃ q, v / 256 ^ j = q := ⟨_, rfl⟩
      rw [hq] at g0 g1 hout ⊢
      have HQ := Lib.hid hq
      have hp : (128 : Int) ≤ q := by omega
      clear hq hle hnext hj hout
      go_wp2_with fail
      go_round
      case rel => exact ⟨j + 1, by go_num, by rw [← HNX.out, HQ.out], by omega⟩
      case measure => simp [intOf]; omega
    · obtain rfl : L = j + 1 := by omega
      have i1 := hle.2 (Nat.le_refl _)
      obtain ⟨q, hq⟩ : ∃ q, v / 256 ^ j = q := ⟨_, rfl⟩
      rw [hq] at g0 g1 i1 ⊢
      have t1 : ¬ (128 : Int) ≤ q := by omega
      clear hq hle hnext hj hlt
      go_wp2_with fail
      clear t1 g0 g1 i1
      go_loopw [3] (fun l W' => ∃ (m : Nat) (r : Value), m ≤ j + 1 ∧ l = .int .i64 ((j : Int) + 1 - m) ∧ Bld W' c { vc with res := r } ∧ Row W' base r (zs ++ bigB (v / 256 ^ (j + 1 - m)) m) ∧ Only (c :: own vc.res) W W' ∧ (r.ownBlock = vc.res.ownBlock ∨ ∀ k ∈ own r, W.heap.size ≤ k)) (fun l _ => (intOf l).toNat)
      case atStart =>
        obtain ⟨hb, he, hch, hf, hr, _⟩ := HB.out
        exact ⟨0, vc.res, Nat.zero_le _, by simp, hb, by rw [show bigB (v / 256 ^ (j + 1 - 0)) 0 = [] from rfl, List.append_nil]; exact hr, Only.refl _ _, .inl rfl⟩
      case round =>
        obtain ⟨m, r, hm, rfl, hbm, hrm, hom, hwm⟩ := hrel
        obtain ⟨hb, he, hch, hf, hr, hz, hbase, hv⟩ := HB.out
        have hxl : x ∉ c :: own vc.res := by
          simp only [List.mem_cons, not_or]
          refine ⟨?_, hr.ne hv (by decide)⟩
          rintro rfl
          have h1 : W.heap[x]? = _ := hv
          have h2 : W.heap[x]? = _ := hb
          rw [h1] at h2
          simp at h2
        have hvm := hv.only hom hxl
        have hcm := hvm.cell
        by_cases hlt2 : m < j + 1
        · obtain ⟨t, ht⟩ : ∃ t : Nat, j + 1 = m + 1 + t := ⟨j - m, by omega⟩
          have htl : (j : Int) + 1 - m = (t : Int) + 1 := by omega
          rw [htl]
          have ht7 : (t : Int) ≤ 8 := by omega
          have HT := Lib.hid (And.intro ht htl)
          have HBM := Lib.hid (And.intro hbm (And.intro hrm (And.intro hom hwm)))
          have hlw : (zs ++ bigB (v / 256 ^ (j + 1 - m)) m).length ≤ 2147483700 := by rw [List.length_append, bigB_len]; omega
          have HA := Lib.hid (fun y (hy : 0 ≤ y ∧ y ≤ 255) => BAddUint8_any c { vc with res := r } y (zs ++ bigB (v / 256 ^ (j + 1 - m)) m) wr base hbm he hch hf hrm (by have := hom.size; omega) (by omega) hy.1 hy.2)
          clear hb he hch hf hr hz hbase hv hbm hrm hom hwm hvm hlt2 hm ht htl hlw hxl
          go_wp2_with fail
          refine (HA.out (bits .and .u64 (v / 2 ^ (t * 8)) 255 % 256) ⟨by omega, by omega⟩).mono ?_
          rintro e w2 ⟨r2, rfl, h1, h2, h3, h4⟩
          have H2 := Lib.hid (And.intro h1 (And.intro h2 (And.intro h3 h4)))
          clear h1 h2 h3 h4 HA hcm
          go_wp2_with fail
          go_roundw
          case rel =>
            obtain ⟨h1, h2, h3, h4⟩ := H2.out
            obtain ⟨hbm, hrm, hom, hwm⟩ := HBM.out
            obtain ⟨ht, htl⟩ := HT.out
            obtain ⟨hb, he, hch, hf, hr, hz, hbase, hv⟩ := HB.out
            refine ⟨m + 1, r2, by omega, congrArg _ (by omega), h1, ?_, ?_, ?_⟩
            · have e1 : j + 1 - (m + 1) = t := by omega
              have e2 : j + 1 - m = t + 1 := by omega
              have e3 : bits .and .u64 (v / 2 ^ (t * 8)) 255 = v / 256 ^ t % 256 := by rw [and255 .u64 (.inr rfl), Nat.mul_comm, two_pow_eight]
              have e4 : v / 256 ^ t / 256 = v / 256 ^ (t + 1) := by rw [Int.ediv_ediv_of_nonneg (Int.le_of_lt (Int.pow_pos (by decide))), ← Int.pow_succ]
              rw [e1, bigB_succ, e4, ← e2, ← List.append_assoc]
              rw [e3, bigB_one, mod3] at h2
              exact h2
            · refine hom.then h3 ?_
              intro k hk hlt
              simp only [List.mem_cons] at hk ⊢
              rcases hk with rfl | hk
              · exact .inl rfl
              · rcases hwm with hw | hw
                · right
                  simp only [own] at hk ⊢
                  rw [← hw]
                  exact hk
                · exact absurd (hw k hk) (by omega)
            · rcases h4 with h4 | h4
              · rcases hwm with hw | hw
                · exact .inl (h4.trans hw)
                · refine .inr fun k hk => hw k ?_
                  simp only [own] at hk ⊢
                  rw [← h4]
                  exact hk
              · exact .inr fun k hk => Nat.le_trans hom.size (h4 k hk)
          case measure => simp [intOf]
        · obtain rfl : m = j + 1 := by omega
          have h0 : (j : Int) + 1 - ((j + 1 : Nat) : Int) = 0 := by omega
          rw [h0]
          rw [Nat.sub_self, Int.pow_zero, Int.ediv_one] at hrm
          have HBM := Lib.hid (And.intro hbm (And.intro hrm (And.intro hom hwm)))
          clear hb he hch hf hr hz hbase hv hbm hrm hom hwm hvm hlt2 hm hxl
          go_wp2_with fail
          go_end0
          obtain ⟨hbm, hrm, hom, hwm⟩ := HBM.out
          refine ⟨rfl, hom, r, hbm, ?_, hwm⟩
          unfold uocts
          rw [HLL.out]
          exact hrm

theorem octet_cont (x : Nat) (A : Option Addr) (c0 : Nat) (xs : List Int) (w : World) (base : Nat) (L : List Nat) (K : Nat) (hx : ∀ W, Only L w W → Var W x 24 (.slice A xs.length c0) ∧ Rd W W.heap.size A xs) (hl : xs.length ≤ 4194304) : ContOKP w base L 61 #[.pointer (some ⟨x, 0, none⟩)] K (ofO (some xs)) := by
  intro W c vc zs bi ho hc hb he hch hf hr hz0 hbase hbinc hbiv hbown _
  have hz : zs.length ≤ 2147483660 := by omega
  clear hz0 hbinc hbiv
  refine Calls.mono ?_ (fun e w' h => ContR.toP h)
  obtain ⟨hv, hrd⟩ := hx W ho
  have hcell := hv.cell
  show Calls Try.prog 61 #[.pointer (some ⟨c, 0, none⟩), .pointer (some ⟨x, 0, none⟩)] W _
  have H2 := Lib.hid (BAddBytes_any c vc A xs.length c0 xs zs W base W.heap.size hb he hch hf hr hrd rfl hbase (by omega))
  clear hbown hx ho hb he hch hf hr hz hv hrd hl hc hbase
  go_enter Try.func61, Try.ntmps61
  go_wp2_with fail
  refine H2.out.mono ?_
  intro e w3 h
  have HQ := Lib.hid h.cont
  obtain ⟨r, rfl, _⟩ := h
  clear H2
  go_wp2_with fail
  go_end0
  exact HQ.out

theorem bits_cont (x : Nat) (A : Option Addr) (c0 : Nat) (xs : List Int) (w : World) (base : Nat) (L : List Nat) (K bd : Nat) (hx : ∀ W, Only L w W → Var W x 24 (.slice A xs.length c0) ∧ Row W bd (.slice A xs.length c0) xs) (hLd : ∀ k ∈ L, k < bd) (hbw : ∀ k ∈ own (.slice A xs.length c0), k < w.heap.size) (hl : xs.length ≤ 4194304) :
    ContOKP w base L 62 #[.pointer (some ⟨x, 0, none⟩)] K (ofO (some (0 :: xs))) := by
  intro W c vc zs bi ho hc hb he hch hf hr hz0 hbase hbinc hbiv hbown _
  have hz : zs.length ≤ 2147483660 := by omega
  clear hz0 hbinc hbiv
  refine Calls.mono ?_ (fun e w' h => ContR.toP h)
  show Calls Try.prog 62 #[.pointer (some ⟨c, 0, none⟩), .pointer (some ⟨x, 0, none⟩)] W _
  obtain ⟨hv0, hrd0⟩ := hx W ho
  have hxl : x ∉ c :: own vc.res := by
    simp only [List.mem_cons, not_or]
    refine ⟨?_, hr.ne hv0 (by decide)⟩
    rintro rfl
    have h1 : W.heap[x]? = _ := hv0
    have h2 : W.heap[x]? = _ := hb
    rw [h1] at h2
    simp at h2
  have hlow : ∀ i ∈ c :: own vc.res, i ∉ own (.slice A xs.length c0) := by
    intro i hi hm
    rcases List.mem_cons.1 hi with rfl | hi
    · exact hrd0.ne hb (by decide) hm
    · have h1 := hrd0.low i hm
      have h2 := hbw i hm
      rcases hbown i hi with h3 | h3
      · have := hLd i h3; omega
      · omega
  have H1 := Lib.hid (BAddUint8_any c vc 0 zs W base hb he hch hf hr hbase (by omega) (by decide) (by decide))
  have H2 := Lib.hid (fun r2 w2 (hb2 : Bld w2 c { vc with res := r2 }) (hr2 : Row w2 base r2 (zs ++ [0])) (hk : Only (c :: own vc.res) W w2) => BAddBytes_any c { vc with res := r2 } A xs.length c0 xs (zs ++ [0]) w2 base w2.heap.size hb2 he hch hf hr2 ((hrd0.only hk hlow).rd rfl) rfl (by have := hk.size; omega) (by simp; omega))
  have HO := Lib.hid (And.intro hv0 hxl)
  clear hx ho hb he hch hf hr hz hv0 hc hbase hl hxl hlow hrd0 hbw hLd hbown
  go_enter Try.func62, Try.ntmps62
  go_wp2_with fail
  refine H1.out.mono ?_
  rintro e w2 ⟨r2, rfl, hb2, hr2, hk2, hw2⟩
  have hv2 := HO.out.1.only hk2 HO.out.2
  have hcell := hv2.cell
  have H3 := Lib.hid (H2.out r2 w2 hb2 hr2 hk2)
  have HK := Lib.hid (And.intro hk2 hw2)
  clear hb2 hr2 hk2 hw2 hv2 H2 H1
  go_wp2_with fail
  refine H3.out.mono ?_
  rintro e w3 ⟨r3, rfl, h1, h2, h3, h4⟩
  have HQ : Hid (ContR W base c vc zs (some (0 :: xs)) (.returned (.tuple #[])) w3) := Lib.hid (by
    obtain ⟨hk2, hw2⟩ := HK.out
    refine ⟨rfl, hk2.then h3 ?_, r3, h1, by simpa using h2, ?_⟩
    · intro k hk hlt
      simp only [List.mem_cons] at hk ⊢
      rcases hk with rfl | hk
      · exact .inl rfl
      · rcases hw2 with hw | hw
        · right
          simp only [own] at hk ⊢
          rw [← hw]
          exact hk
        · exact absurd (hw k hk) (by omega)
    · rcases h4 with h4 | h4
      · rcases hw2 with hw | hw
        · exact .inl (h4.trans hw)
        · refine .inr fun k hk => hw k ?_
          simp only [own] at hk ⊢
          rw [← h4]
          exact hk
      · exact .inr fun k hk => Nat.le_trans hk2.size (h4 k hk))
  clear h1 h2 h3 h4 H3
  go_wp2_with fail
  go_end0
  exact HQ.out

/-- The contents that adding arcs makes: none where they are none of an object identifier. -/
def oidCs (xs : List Int) : Option (List Int) := if validOID xs then some (oidC xs) else none
theorem oidCs_len {xs cs : List Int} (h : oidCs xs = some cs) : cs.length ≤ 5 * xs.length := by
  unfold oidCs at h
  split at h
  · rename_i hv
    simp only [Option.some.injEq] at h
    subst h
    unfold validOID at hv
    simp only [decide_eq_true_eq] at hv
    have h1 := b128s_len (xs.drop 2)
    have h2 := b128_len (xs.getD 0 0 * 40 + xs.getD 1 0)
    have h3 := l7_bd (xs.getD 0 0 * 40 + xs.getD 1 0)
    unfold oidC
    rw [List.length_append]
    rw [List.length_drop] at h1
    omega
  · cases h
theorem Added.then {w w1 w' : World} {base b : Nat} {v : Bv} {ys xs zs : List Int} {r : Value} {e : Ending} (h : Added w1 base b { v with res := r } (ys ++ xs) zs e w') (ho : Only (b :: own v.res) w w1)
    (hr : r.ownBlock = v.res.ownBlock ∨ ∀ k ∈ own r, w.heap.size ≤ k) : Added w base b v ys (xs ++ zs) e w' := by
  obtain ⟨r', rfl, h1, h2, h3, h4⟩ := h
  refine ⟨r', rfl, h1, by rw [← List.append_assoc]; exact h2, ho.then h3 ?_, ?_⟩
  · intro i hi hlt
    rcases List.mem_cons.1 hi with rfl | hi
    · simp
    · rcases hr with h | h
      · refine List.mem_cons_of_mem _ ?_
        rw [own, ← h]
        exact hi
      · have := h i hi
        omega
  · rcases h4 with h4 | h4
    · rcases hr with h | h
      · exact .inl (h4.trans h)
      · refine .inr fun k hk => h k ?_
        simp only [own] at hk ⊢
        rw [← show r'.ownBlock = r.ownBlock from h4]
        exact hk
    · exact .inr fun k hk => Nat.le_trans ho.size (h4 k hk)

theorem holdsI_step {W W' : World} {x c base base' : Nat} {T : TypeId} {v0 r : Value} {xs zs : List Int} {vc : Bv} (hT : T ≠ 35) (hT8 : T ≠ 5) (hv : Var W x T v0) (hri : RowI W base' v0 xs) (hb : Bld W c vc) (hr : Row W base r zs) (ho : Only (c :: own r) W W') : Var W' x T v0 ∧ RowI W' base' v0 xs := by
  refine ⟨hv.only ho ?_, hri.only ho ?_⟩
  · simp only [List.mem_cons, not_or]
    refine ⟨?_, hr.ne hv hT8⟩
    rintro rfl
    have := hv.symm.trans hb
    simp only [Option.some.injEq, Obj.cells.injEq] at this
    exact hT this.2.1
  · intro k hk hm
    rcases hri.2.2 with ⟨rfl, _⟩ | ⟨g, cap, cur, rfl, _, hg, _⟩
    · simp [own, Value.ownBlock] at hm
    · simp only [own, Value.ownBlock, Option.toList_some, List.mem_singleton] at hm
      subst hm
      simp only [List.mem_cons] at hk
      rcases hk with rfl | hk
      · rw [hb] at hg
        simp only [Option.some.injEq, Obj.cells.injEq] at hg
        exact absurd hg.2.1 (by decide)
      · exact hr.ne hg (by decide) hk

set_option maxRecDepth 100000 in
theorem oid_cont (x : Nat) (v0 : Value) (xs : List Int) (w : World) (base base' : Nat) (L : List Nat) (K : Nat) (hx : ∀ W, Only L w W → Var W x 77 v0 ∧ RowI W base' v0 xs) (hl : xs.length ≤ 4194304) (hm : ∀ v ∈ xs, v ≤ 2147483647) :
    ContOKP w base L 63 #[.pointer (some ⟨x, 0, none⟩)] K (ofO (oidCs xs)) := by
  intro W c vc zs bi ho hc hb he hch hf hr hz0 hbase hbinc hbiv hbown _
  have hz : zs.length ≤ 2147483660 := by omega
  clear hz0 hbinc hbiv
  refine Calls.mono ?_ (fun e w' h => ContR.toP h)
  obtain ⟨hv, hri⟩ := hx W ho
  have hcell := hv.cell
  obtain ⟨A, k, rfl, hk, hkm, _⟩ := hri.form
  have hrd := hri.rd rfl
  show Calls Try.prog 63 #[.pointer (some ⟨c, 0, none⟩), .pointer (some ⟨x, 0, none⟩)] W _
  have VA := Lib.hid (valid_any A xs.length k xs W W.heap.size hrd rfl hl)
  cases hval : validOID xs with
  | false =>
    have hcs : oidCs xs = none := by unfold oidCs; rw [hval]; rfl
    rw [hcs]
    rw [hval] at VA
    have HB := Lib.hid (fun W1 (hk : Only [] W W1) => hb.only hk (by simp))
    have hlt := hb.lt
    have HE := Lib.hid he
    have HCH := Lib.hid hch
    clear hbown hx ho hb he hch hf hr hz hri hrd hl hc hbase hm hval hcs
    go_enter Try.func63, Try.ntmps63
    go_wp2_with fail
    refine VA.out.mono ?_
    rintro e w1 ⟨rfl, hk1⟩
    have b1 := HB.out _ hk1
    have bf0 := b1.free 0
    have b0 := b1.c0
    rw [HE.out] at b0
    have HB1 := Lib.hid b1
    have K1 := Lib.hid hk1
    have hlt1 := b1.lt
    clear b1 hk1 VA HB
    go_wp2_with fail
    refine (errorsNew_any _ _).mono ?_
    rintro e w' ⟨rfl, rfl⟩
    go_wp2_with fail
    refine bodyPost_ret (results_none rfl _ _ _) rfl ?_
    refine ⟨rfl, ((K1.out.more (by simp)).setCell (.inl (by simp)) _).alloc _, 92, .pointer (some ⟨w1.heap.size, 0, none⟩), _, (HB1.out.set0 _).alloc _, rfl, HCH.out⟩
  | true =>
    have hcs : oidCs xs = some (oidC xs) := by unfold oidCs; rw [hval]; rfl
    rw [hcs]
    rw [hval] at VA
    unfold validOID at hval
    simp only [decide_eq_true_eq] at hval
    obtain ⟨h2, h0le, h40, hall⟩ := hval
    have hvd : ∀ i, i < xs.length → 0 ≤ xs.getD i 0 ∧ xs.getD i 0 ≤ 2147483647 := fun i hi => by
      rw [List.getD_eq_getElem?_getD, List.getElem?_eq_getElem hi]
      exact ⟨hall _ (List.getElem_mem hi), hm _ (List.getElem_mem hi)⟩
    obtain ⟨x0, x1⟩ := hvd 0 (by omega)
    obtain ⟨y0, y1⟩ := hvd 1 (by omega)
    obtain ⟨m, hm2⟩ : ∃ m, xs.length = m + 2 := ⟨xs.length - 2, by omega⟩
    rw [hm2] at hv hri hcell hk VA
    obtain ⟨ab, aoff, rfl, hab, hcells⟩ := hrd.2 (by omega)
    have hc0 := hcells 0 (by omega)
    have hc1 := hcells 1 (by omega)
    rw [Nat.add_zero] at hc0
    have HRD := Lib.hid hrd
    have HRI := Lib.hid hri
    have HVD := Lib.hid hvd
    have HM := Lib.hid hm2
    have HO : Hid (oidC xs = b128 (xs.getD 0 0 * 40 + xs.getD 1 0) ++ b128s (xs.drop 2)) := Lib.hid rfl
    have HB := Lib.hid (And.intro hb (And.intro hr hbase))
    have HS := Lib.hid (fun W' (ho : Only (c :: own vc.res) W W') => holdsI_step (by decide) (by decide) hv hri hb hr ho)
    have HV := Lib.hid (And.intro he (And.intro hch (And.intro hf hz)))
    have hml : m ≤ 4194304 := by omega
    clear hbown hx ho hb he hch hf hr hz hri hrd hl hc hbase hm hcs hall hvd hm2 h2 h40 hv
    obtain ⟨a0, ha0⟩ : ∃ a0, xs.getD 0 0 = a0 := ⟨_, rfl⟩
    obtain ⟨a1, ha1⟩ : ∃ a1, xs.getD 1 0 = a1 := ⟨_, rfl⟩
    rw [ha0] at h0le x0 x1 hc0 HO
    rw [ha1] at y0 y1 hc1 HO
    have HA0 := Lib.hid ha0
    have HA1 := Lib.hid ha1
    clear ha0 ha1
    have w1f : IntKind.i64.wrap (a0 * 40) = a0 * 40 := IntWalk.i64_in _ (by omega)
    have w2f : IntKind.i64.wrap (a0 * 40 + a1) = a0 * 40 + a1 := IntWalk.i64_in _ (by omega)
    have b0f : (0 : Int) < (m : Int) + 2 := by omega
    have b1f : (1 : Int) < (m : Int) + 2 := by omega
    go_enter Try.func63, Try.ntmps63
    go_wp2_with fail
    refine VA.out.mono ?_
    rintro e w1 ⟨rfl, hk1⟩
    have hcellw := (hk1.cell (p := ⟨x, 0, none⟩) (World.block_lt_of_cell? W _ hcell) (by simp)).trans hcell
    have hc0w := (hk1.cell (p := ⟨ab, aoff, none⟩) (World.block_lt_of_cell? W _ hc0) (by simp)).trans hc0
    have hc1w := (hk1.cell (p := ⟨ab, aoff + 1, none⟩) (World.block_lt_of_cell? W _ hc1) (by simp)).trans hc1
    have K1 := Lib.hid hk1
    obtain ⟨hb, hr, hbase⟩ := HB.out
    obtain ⟨he, hch, hf, hz⟩ := HV.out
    have B1 := Lib.hid (BaddBase128_any c vc (a0 * 40 + a1) zs w1.drew base ((hb.only hk1 (by simp)).drew) he hch hf (Row.only (l := []) hr hk1.drew (by simp)) (by have := hk1.size; exact Nat.le_trans hbase this) (by omega) (by omega) (by omega))
    have QFF := Lib.hid (fun w2 (ho2 : Only (c :: own vc.res) W w2) => (show w2.cell? ⟨x, 0, none⟩ = some (.slice (some ⟨ab, aoff, none⟩) (m + 2) k) ∧ ∀ i, i < xs.length → w2.cell? ⟨ab, aoff + i, none⟩ = some (.int .i64 (xs.getD i 0)) from by
      obtain ⟨q1, q2⟩ := HS.out w2 ho2
      obtain ⟨ab', aoff', e', _, hcells⟩ := (q2.rd HM.out.symm).2 (by have := HM.out; omega)
      have e2 := Option.some.inj e'
      obtain ⟨rfl, rfl⟩ : ab = ab' ∧ aoff = aoff' := by injection e2 with h1 h2; exact ⟨h1, h2⟩
      exact ⟨q1.cell, hcells⟩))
    have Q0 := Lib.hid (fun w2 (ho2 : Only (c :: own vc.res) W w2) => (show w2.cell? ⟨x, 0, none⟩ = some (.slice (some ⟨ab, aoff, none⟩) (m + 2) k) ∧ w2.cell? ⟨ab, aoff, none⟩ = some (.int .i64 a0) ∧ w2.cell? ⟨ab, aoff + 1, none⟩ = some (.int .i64 a1) from by
      obtain ⟨q1, q2⟩ := QFF.out w2 ho2
      exact ⟨q1, by have := q2 0 (by have := HM.out; omega); rwa [HA0.out] at this, by have := q2 1 (by have := HM.out; omega); rwa [HA1.out] at this⟩))
    clear hk1 VA hb hr hbase he hch hf hz hcells
    go_wp2_with fail
    go_region_held3 (fun w' => w'.cell? ⟨x, 0, none⟩ = some (.slice (some ⟨ab, aoff, none⟩) (m + 2) k) ∧ w'.cell? ⟨ab, aoff, none⟩ = some (.int .i64 a0) ∧ w'.cell? ⟨ab, aoff + 1, none⟩ = some (.int .i64 a1)) (first | exact ⟨hcellw, hc0w, hc1w⟩ | exact QF.out) ((go_at_call 65; refine B1.out.mono ?_; intro e w2 hA; have HA2 : Hid (Added W base c vc zs (b128 (a0 * 40 + a1)) e w2) := Lib.hid (Added.then (xs := []) (r := vc.res) (by rw [List.append_nil]; exact hA) ((K1.out.drew).more (by simp)) (.inl rfl)); obtain ⟨_, rfl, _⟩ := hA; have QF := Lib.hid (Q0.out w2 (by obtain ⟨_, _, _, _, h, _⟩ := HA2.out; exact h))))
    obtain ⟨hcw, _, _⟩ := QF.out
    clear hcell hc0 hc1 hcellw hc0w hc1w B1 K1 QF Q0
    go_wp2_with fail
    · have hm0 : m = 0 := by have := HM.out; omega
      subst hm0
      go_loopw [25] (fun i W' => i = .int .i64 0 ∧ W' = w2) (fun _ _ => 0)
      case atStart => exact ⟨by simp, rfl⟩
      case round =>
      obtain ⟨rfl, rfl⟩ := hrel
      go_wp2_with fail
      go_end0
      have h := HA2.out
      have hd : xs.drop 2 = [] := List.drop_eq_nil_iff.2 (by have := HM.out; omega)
      rw [HO.out, hd, show b128s [] = [] from rfl, List.append_nil]
      exact h.cont
    · go_loopw [25] (fun i W' => ∃ j : Nat, i = .int .i64 (j : Int) ∧ j ≤ m ∧ Added W base c vc zs (b128 (a0 * 40 + a1) ++ b128s ((xs.drop 2).take j)) (.returned (.tuple #[])) W') (fun i _ => m - (intOf i).toNat)
      case atStart => exact ⟨0, by simp, Nat.zero_le _, by simpa [b128s] using HA2.out⟩
      case round =>
        obtain ⟨j, rfl, hj, hA⟩ := hrel
        have HA := Lib.hid hA
        have hoj := (show Only (c :: own vc.res) W wr from by obtain ⟨_, _, _, _, h, _⟩ := hA; exact h)
        by_cases hlt : j < m
        · have hij : (j : Int) < (m : Int) := by omega
          obtain ⟨hcv, hcells⟩ := QFF.out wr hoj
          have hcj := hcells (2 + j) (by have := HM.out; omega)
          rw [← Nat.add_assoc] at hcj
          have hxb := HVD.out (2 + j) (by have := HM.out; omega)
          have hstep : b128s ((xs.drop 2).take (j + 1)) = b128s ((xs.drop 2).take j) ++ b128 (xs.getD (2 + j) 0) := by
            rw [← b128s_snoc]
            congr 1
            rw [List.take_add_one, List.getElem?_drop, List.getD_eq_getElem?_getD, List.getElem?_eq_getElem (by have := HM.out; omega)]
            rfl
          have HST := Lib.hid hstep
          have hln : (zs ++ (b128 (a0 * 40 + a1) ++ b128s ((xs.drop 2).take j))).length ≤ 4294967295 := by
            have h1 := b128s_len ((xs.drop 2).take j)
            have h4 := b128_len (a0 * 40 + a1)
            have h5 := l7_bd (a0 * 40 + a1)
            have h6 : ((xs.drop 2).take j).length ≤ j := by rw [List.length_take]; omega
            have := HV.out.2.2.2
            rw [List.length_append, List.length_append]
            omega
          obtain ⟨rj, _, hbj, hrj, _, hownj⟩ := hA
          have B2 := Lib.hid (BaddBase128_any c { vc with res := rj } (xs.getD (2 + j) 0) (zs ++ (b128 (a0 * 40 + a1) ++ b128s ((xs.drop 2).take j))) wr base hbj HV.out.1 HV.out.2.1 HV.out.2.2.1 hrj (Nat.le_trans HB.out.2.2 hoj.size) hln hxb.1 (by omega))
          have HOJ := Lib.hid (And.intro hoj hownj)
          have HLT := Lib.hid hlt
          generalize xs.getD (2 + j) 0 = y at *
          clear hcells hstep hln hbj hrj hownj hoj hlt hj hxb HA
          go_wp2_with fail
          refine B2.out.mono ?_
          intro e w3 hA3
          have HA3 := Lib.hid (hA3.then HOJ.out.1 HOJ.out.2)
          obtain ⟨_, rfl, _⟩ := hA3
          clear B2
          go_wp2_with fail
          go_roundw
          case rel =>
            refine ⟨j + 1, by go_num, by have := HLT.out; omega, ?_⟩
            rw [HST.out, ← List.append_assoc]
            exact HA3.out
          case measure => simp [intOf]; have := HLT.out; omega
        · obtain rfl : j = m := by omega
          clear hlt hA hoj hj
          go_wp2_with fail
          go_end0
          have h := HA.out
          rw [List.take_of_length_le (by rw [List.length_drop]; have := HM.out; omega)] at h
          rw [HO.out]
          exact h.cont

end Go.Proofs.Ytndnglpehghmeaa
