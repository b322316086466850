/- flushChild, walked: contract. -/
import Derived.Test.YtndnglpehghmeaaZ2
/-! ### flushChild, walked: contract. -/
namespace Go.Proofs.Ytndnglpehghmeaa
open Go.RowKit

/-- What flushing a child leaves. -/
def Flushed (w1 : World) (base b c : Nat) (vb : Bv) (ys cs : List Int) (r : Value) (o : Option (List Int)) (w' : World) : Prop :=
  Only (b :: c :: own r) w1 w' ∧ (match o with
   | some hs => ∃ r', Bld w' b { vb with child := .pointer none, res := r' } ∧ Row w' base r' (ys ++ hs ++ cs) ∧ (r'.ownBlock = r.ownBlock ∨ ∀ k ∈ own r', w1.heap.size ≤ k)
   | none => ∃ T u, Bld w' b { vb with child := .pointer none, err := .iface T u })

theorem fl_false (ys : List Int) (m n : Nat) : ((n : Int) / 256 ^ m = 0 → ∃ hs, fl false m n = some hs ∧ ys ++ hs = ys ++ bigB n m) ∧ ((n : Int) / 256 ^ m ≠ 0 → fl false m n = none) := by
  have hp : (0 : Int) < 256 ^ m := Int.pow_pos (by decide)
  have e : (n : Int) < 256 ^ m ↔ n < 256 ^ m := by
    have h := Int.ofNat_lt (n := n) (m := 256 ^ m)
    rwa [Int.natCast_pow] at h
  have hz : (n : Int) / 256 ^ m = 0 ↔ (n : Int) < 256 ^ m := by
    constructor
    · intro h
      have := Int.emod_add_mul_ediv n (256 ^ m)
      rw [h] at this
      have h2 := Int.emod_lt_of_pos n hp
      simp at this
      omega
    · intro h
      exact Int.ediv_eq_zero_of_lt (by omega) h
  rw [hz, e]
  unfold fl
  constructor
  · intro h
    exact ⟨_, by rw [if_neg (by decide), if_pos h], rfl⟩
  · intro h
    rw [if_neg (by decide), if_neg (by omega)]

/-- Where the length's bytes stand, still to be written. -/
def Mid (w1 : World) (base b c : Nat) (vb : Bv) (ys cs : List Int) (r : Value) (o : Option (List Int)) (inc : Value) (s3 : Value) (W : World) : Prop :=
  ∃ zs js q r' asn', s3 = .int .i64 q ∧ 0 ≤ q ∧ q ≤ 2147483640 ∧ js.length ≤ 4 ∧ zs.length + js.length + cs.length ≤ 2147483660 ∧ 0 < zs.length + js.length ∧
    Bld W b { vb with child := .pointer none } ∧ Bld W c ⟨.nilIface, r', false, .pointer none, zs.length, js.length, asn', inc⟩ ∧ Row W base r' (zs ++ js ++ cs) ∧ Only (b :: c :: own r) w1 W ∧
    (r'.ownBlock = r.ownBlock ∨ ∀ k ∈ own r', w1.heap.size ≤ k) ∧
    (q / 256 ^ js.length = 0 → ∃ hs, o = some hs ∧ ys ++ hs = zs ++ bigB q js.length) ∧ (q / 256 ^ js.length ≠ 0 → o = none)

set_option maxRecDepth 100000 in
set_option maxHeartbeats 1000000 in
theorem flush_core {S Q : World → Prop} (b c : Nat) (vb : Bv) (w : World) (hb : Bld w b vb) (hch : vb.child = .pointer (some ⟨c, 0, none⟩))
    (hrec : Calls Try.prog 70 #[.pointer (some ⟨c, 0, none⟩)] w fun e w1 => e = .returned (.tuple #[]) ∧ S w1)
    (hS : ∀ w1, S w1 → (∃ base ys cs asn m inc r vb1, Bld w1 b vb1 ∧ vb1.child = .pointer (some ⟨c, 0, none⟩) ∧ vb1.fixed = false ∧ b ≠ c ∧ Kid w1 base c asn m ys cs inc r ∧ 1 ≤ m ∧ m ≤ 4 ∧ (asn = true → m = 1) ∧ ys.length + cs.length ≤ 2147483640 ∧ base ≤ w1.heap.size ∧
        ∀ w', Flushed w1 base b c vb1 ys cs r (fl asn m cs.length) w' → Q w') ∨
      (∃ vb1 vc T u, Bld w1 b vb1 ∧ vb1.child = .pointer (some ⟨c, 0, none⟩) ∧ b ≠ c ∧ Bld w1 c vc ∧ vc.err = .iface T u ∧
        ∀ w', Only [b] w1 w' → Bld w' b { vb1 with child := .pointer none, err := .iface T u } → Q w')) :
    Calls Try.prog 70 #[.pointer (some ⟨b, 0, none⟩)] w fun e w' => e = .returned (.tuple #[]) ∧ Q w' := by
  have h3 := hb.c3
  rw [hch] at h3
  have HR := Lib.hid hrec
  have HS := Lib.hid hS
  clear hrec hS hb hch
  go_enter Try.func70, Try.ntmps70
  go_wp2_with fail
  refine HR.out.mono ?_
  rintro e w1 ⟨rfl, s1⟩
  rcases HS.out w1 s1 with ⟨base, ys, cs, asn, m, inc, r, vb1, hb1, hch1, hf1, hbc, ⟨hk, hr⟩, hm1, hm4, ham, hlen, hbase, hq⟩ | ⟨vb1, vc, T, u, hb1, hch1, hbc, hc1, hce, hq⟩
  · obtain ⟨g, cap, rfl, hbg, hgl, hcap, hcm⟩ := hr.pos (by simp; omega)
    have hLe : (ys ++ List.replicate m 0 ++ cs).length = ys.length + m + cs.length := by simp; omega
    rw [hLe] at hk hr hcap hq
    obtain ⟨L, hL⟩ : ∃ L, ys.length + m + cs.length = L := ⟨_, rfl⟩
    obtain ⟨p, hp⟩ : ∃ p, ys.length + cs.length = p := ⟨_, rfl⟩
    rw [hL] at hk hr hcap hq
    have hb2 := hb1.set3 (.pointer none)
    have hk2 := hk.far (p := ⟨b, 3, none⟩) (Ne.symm hbc) (.pointer none)
    have hgb : b ≠ g := fun e => hr.ne hb1 (by decide) (by simp [own, Value.ownBlock, e])
    have hr2 : Row (w1.setCell ⟨b, 3, none⟩ (.pointer none)) base (.slice (some ⟨g, 0, none⟩) L cap) (ys ++ List.replicate m 0 ++ cs) := hr.only (l := [b]) ((Only.refl _ _).setCell (.inl (by simp)) _) (by simp [own, Value.ownBlock, hgb])
    have b3 := hb1.c3
    rw [hch1] at b3
    have bf3 := hb1.free 3
    obtain ⟨w2, hw2⟩ : ∃ w2, w1.setCell ⟨b, 3, none⟩ (.pointer none) = w2 := ⟨_, rfl⟩
    rw [hw2] at hb2 hk2 hr2
    have ho2 : Only [b] w1 w2 := hw2 ▸ (Only.refl _ _).setCell (.inl (by simp)) _
    have k0 : w1.cell? ⟨c, 0, none⟩ = some .nilIface := hk.c0
    have HW2 := Lib.hid hw2
    have HO2 := Lib.hid ho2
    have HB2 := Lib.hid hb2
    have HK2 := Lib.hid hk2
    have HR2 := Lib.hid hr2
    have HQ := Lib.hid hq
    have HL := Lib.hid (And.intro hL hp)
    have HM := Lib.hid (And.intro hm1 (And.intro hm4 ham))
    have HN := Lib.hid hlen
    have HC := Lib.hid (And.intro hcap (And.intro hcm (And.intro hbg hbase)))
    have hs1 : IntKind.i64.wrap ((L : Int) - (m : Int)) = (p : Int) := by
      have : (L : Int) - (m : Int) = (p : Int) := by omega
      rw [this]
      exact IntWalk.i64_in _ (by omega)
    have hs2 : IntKind.i64.wrap ((p : Int) - (ys.length : Int)) = (cs.length : Int) := by
      have : (p : Int) - (ys.length : Int) = (cs.length : Int) := by omega
      rw [this]
      exact IntWalk.i64_in _ (by omega)
    clear hb1 hch1 hk hr hL hp hb2 hk2 hr2 hq hw2 ho2 s1 HR HS hm1 hm4 ham hlen hbase hcap hcm hbg hgl hLe
    go_wp2_with fail
    rw [HW2.out]
    have b1 := HB2.out.c1
    have b2 := HB2.out.c2
    have bf0 := HB2.out.free 0
    have bf1 := HB2.out.free 1
    have c1 := HK2.out.c1
    have c4 := HK2.out.c4
    have c5 := HK2.out.c5
    have c6 := HK2.out.c6
    clear k0 b3 bf3
    go_quiet (fail)
    obtain ⟨w3, hw3⟩ : ∃ w3, w2.drewN nq = w3 := ⟨_, rfl⟩
    rw [hw3]
    have HB3 := Lib.hid (hw3 ▸ HB2.out.drewN nq)
    have HK3 := Lib.hid (hw3 ▸ HK2.out.drewN nq)
    have HR3 : Hid (Row w3 base (.slice (some ⟨g, 0, none⟩) L cap) (ys ++ List.replicate m 0 ++ cs)) := Lib.hid (hw3 ▸ HR2.out)
    have HO3 := Lib.hid (hw3 ▸ HO2.out.drewN nq)
    clear HB2 HK2 HR2 HO2 HW2 hw3 b1 b2 bf0 bf1 c1 c4 c5 c6
    have c6 := HK3.out.c6
    clear hs1 hs2
    have hn0 : (0 : Int) ≤ (cs.length : Int) := by omega
    go_upto_if 60 with (fail)
    go_cut [3] (fun s3 W => Mid w1 base b c vb1 ys cs (.slice (some ⟨g, 0, none⟩) L cap) (fl asn m cs.length) inc s3 W)
    case first =>
      cases asn with
      | false =>
        go_wp2_with fail
        go_meet
        have hlr : (List.replicate m (0 : Int)).length = m := List.length_replicate
        have hf := fl_false ys m cs.length
        have hlen := HN.out
        have hm := HM.out
        refine ⟨ys, List.replicate m 0, cs.length, _, false, rfl, hn0, by omega, by omega, by omega, by omega, HB3.out, ?_, HR3.out, HO3.out.more (by simp), .inl rfl, ?_, ?_⟩
        · rw [hlr]; exact HK3.out
        · rw [hlr]; exact hf.1
        · rw [hlr]; exact hf.2
      | true =>
        obtain rfl : m = 1 := HM.out.2.2 rfl
        have hlen := HN.out
        have hL := HL.out
        have c1 := HK3.out.c1
        have c4 := HK3.out.c4
        have c5 := HK3.out.c5
        have cf4 := HK3.out.free 4
        have cf5 := HK3.out.free 5
        have hLl : (ys ++ List.replicate 1 0 ++ cs).length = L := by simp; omega
        have gc := HR3.out.cell hLl.symm ys.length (by omega)
        have gf := HR3.out.free hLl.symm ys.length
        have hgc : c ≠ g := fun e => HR3.out.ne HK3.out (by decide) (by simp [own, Value.ownBlock, e])
        have hi1 : (ys.length : Int) < (L : Int) := by omega
        have hi0 : (0 : Int) ≤ (ys.length : Int) := by omega
        obtain ⟨i, hi⟩ : ∃ i, ys.length = i := ⟨_, rfl⟩
        rw [hi] at c4 gc gf hi1 hi0
        have HI := Lib.hid hi
        have hib : (i : Int) ≤ 2147483640 := by omega
        by_cases hs : cs.length ≤ 127
        · have t1 : ¬ (4294967294 : Int) < (cs.length : Int) := by omega
          have t2 : ¬ (16777215 : Int) < (cs.length : Int) := by omega
          have t3 : ¬ (65535 : Int) < (cs.length : Int) := by omega
          have t4 : ¬ (255 : Int) < (cs.length : Int) := by omega
          have t5 : ¬ (127 : Int) < (cs.length : Int) := by omega
          have hwr : IntKind.u8.wrap (cs.length : Int) = (cs.length : Int) := by simp [IntKind.wrap, IntKind.bits, IntKind.signed]; omega
          obtain ⟨n, hn⟩ : ∃ n : Int, (cs.length : Int) = n := ⟨_, rfl⟩
          rw [hn] at t1 t2 t3 t4 t5 hwr hn0 ⊢
          have HNn := Lib.hid hn
          have HS := Lib.hid hs
          clear hlen hL hLl hs hn hi
          go_wp2_with fail
          go_still_tail 10, (by kernel_rfl)
          change wpList _ _ _ _ _ (World.drew _)
          go_wp2_with fail
          go_meet
          have hi := HI.out
          have hn := HNn.out
          have hs := HS.out
          have hlen := HN.out
          have hL := HL.out
          have hLl : (ys ++ List.replicate 1 0 ++ cs).length = L := by simp; omega
          have hset := HR3.out.set hLl.symm i n (by omega)
          have hlist : (ys ++ List.replicate 1 0 ++ cs).set i n = ys ++ [n] ++ [] ++ cs := by
            have := set_mid ys (List.replicate 1 0) cs 0 n (by simp)
            rw [Nat.add_zero, hi] at this
            rw [this]
            simp
          rw [hlist] at hset
          have hoff : ((ys ++ [n]).length : Int) = (i : Int) + 1 := by rw [← hi]; simp
          have hgo : g ∈ b :: c :: own (Value.slice (some ⟨g, 0, none⟩) L cap) := by simp [own, Value.ownBlock]
          refine ⟨ys ++ [n], [], 0, _, true, rfl, by omega, by omega, by simp, by simp; omega, by simp, ?_, ?_, ?_, ?_, .inl rfl, ?_, ?_⟩
          · exact (((HB3.out.far (p := ⟨g, i, none⟩) hgb _).far (p := ⟨c, 4, none⟩) hbc _).far (p := ⟨c, 5, none⟩) hbc _).drew
          · rw [hoff]
            exact (((HK3.out.far (p := ⟨g, i, none⟩) hgc _).set4 _).set5 _).drew
          · exact (hset.only (l := [c]) (((Only.refl _ _).setCell (.inl (by simp)) _).setCell (.inl (by simp)) _) (by simp [own, Value.ownBlock, hgc])).drew
          · exact ((((HO3.out.more (by simp)).setCell (.inl hgo) _).setCell (.inl (by simp)) _).setCell (.inl (by simp)) _).drew
          · intro _
            refine ⟨_, rfl, ?_⟩
            rw [show lenB cs.length = [(cs.length : Int)] by unfold lenB; rw [if_pos (by omega)], hn]
            simp [bigB]
          · intro h
            exact absurd rfl h
        · have hbig : 128 ≤ cs.length := by omega
          have hnb := nb_bd cs.length
          have hnv := (nb_val cs.length (by omega)).1
          have hnn : nb cs.length = if cs.length < 256 then 1 else if cs.length < 65536 then 2 else if cs.length < 16777216 then 3 else 4 := rfl
          have hfl : fl true 1 cs.length = some (((128 + nb cs.length : Nat) : Int) :: bigB cs.length (nb cs.length)) := by
            show some (lenB cs.length) = _
            unfold lenB
            rw [if_neg (by omega)]
          obtain ⟨e, he⟩ : ∃ e, nb cs.length = e := ⟨_, rfl⟩
          rw [he] at hnb hnv hnn
          obtain ⟨n, hn⟩ : ∃ n, cs.length = n := ⟨_, rfl⟩
          have HE := Lib.hid (And.intro he (And.intro hn (And.intro hbig hfl)))
          rw [hn] at hnv hnn hn0 hbig hlen hL ⊢
          have HNV := Lib.hid hnv
          have HNN := Lib.hid hnn
          have HX := Lib.hid (And.intro hlen hL)
          have t1 : ¬ (4294967294 : Int) < (n : Int) := by omega
          clear hnv hnn hfl hn he hs hlen hL hLl hi HQ
          go_upto_if 68 with (fail)
          go_cut [3, 4, 5] (fun s3 s4 s5 W => s3 = .int .i64 n ∧ s4 = .int .u8 ((e + 1 : Nat) : Int) ∧ s5 = .int .u8 ((128 + e : Nat) : Int) ∧ W = w3)
          case first =>
            have hnn := HNN.out
            have t5 : (127 : Int) < (n : Int) := by omega
            by_cases a1 : n < 256
            · rw [if_pos a1] at hnn
              subst hnn
              have t2 : ¬ (16777215 : Int) < (n : Int) := by omega
              have t3 : ¬ (65535 : Int) < (n : Int) := by omega
              have t4 : ¬ (255 : Int) < (n : Int) := by omega
              go_wp2_with fail
              go_meet
              exact ⟨rfl, rfl, rfl, rfl⟩
            rw [if_neg a1] at hnn
            have t4 : (255 : Int) < (n : Int) := by omega
            by_cases a2 : n < 65536
            · rw [if_pos a2] at hnn
              subst hnn
              have t2 : ¬ (16777215 : Int) < (n : Int) := by omega
              have t3 : ¬ (65535 : Int) < (n : Int) := by omega
              go_wp2_with fail
              go_meet
              exact ⟨rfl, rfl, rfl, rfl⟩
            rw [if_neg a2] at hnn
            have t3 : (65535 : Int) < (n : Int) := by omega
            by_cases a3 : n < 16777216
            · rw [if_pos a3] at hnn
              subst hnn
              have t2 : ¬ (16777215 : Int) < (n : Int) := by omega
              go_wp2_with fail
              go_meet
              exact ⟨rfl, rfl, rfl, rfl⟩
            rw [if_neg a3] at hnn
            subst hnn
            have t2 : (16777215 : Int) < (n : Int) := by omega
            go_wp2_with fail
            go_meet
            exact ⟨rfl, rfl, rfl, rfl⟩
          case rest =>
            obtain ⟨h1, h2, h3', h4⟩ := hcut
            subst h1 h2 h3'
            rw [h4]
            clear h4 t1
            have hsub : IntKind.u8.wrap (((e + 1 : Nat) : Int) - 1) = (e : Int) := by simp [IntKind.wrap, IntKind.bits, IntKind.signed]; omega
            have he4 : (e : Int) ≤ 4 := by omega
            have hene : ((e : Int) != 0) = true := bne_iff_ne.2 (by omega)
            go_wp2_with fail
            go_still_tail 10, (by kernel_rfl)
            change wpList _ _ _ _ _ (World.drew _)
            have hmk := fun W => mk_run e hnb.1 hnb.2 W
            go_wp2_with fail
            have hx := HX.out
            have hi := HI.out
            have hnl := HE.out.2.1
            have hcc := HC.out
            have hLl : (ys ++ List.replicate 1 0 ++ cs).length = L := by simp; omega
            have hlist : (ys ++ List.replicate 1 0 ++ cs).set i (128 + (e : Int)) = ys ++ [128 + (e : Int)] ++ cs := by
              have := set_mid ys (List.replicate 1 0) cs 0 (128 + (e : Int)) (by simp)
              rw [Nat.add_zero, hi] at this
              rw [this]
              simp
            have hr4 := HR3.out.set hLl.symm i (128 + (e : Int)) (by omega)
            rw [hlist] at hr4
            have hgo : g ∈ b :: c :: own (Value.slice (some ⟨g, 0, none⟩) L cap) := by simp [own, Value.ownBlock]
            have hk4 := (HK3.out.far (p := ⟨g, i, none⟩) hgc (.int .u8 (128 + (e : Int)))).drew
            have hb4 := (HB3.out.far (p := ⟨g, i, none⟩) hgb (.int .u8 (128 + (e : Int)))).drew
            have ho4 : Only (b :: c :: own (Value.slice (some ⟨g, 0, none⟩) L cap)) w1 _ := ((HO3.out.more (by simp)).setCell (p := ⟨g, i, none⟩) (.inl hgo) (.int .u8 (128 + (e : Int)))).drew
            have hr4' : Row (w3.setCell ⟨g, i, none⟩ (.int .u8 (128 + (e : Int)))).drew base (.slice (some ⟨g, 0, none⟩) L cap) (ys ++ [128 + (e : Int)] ++ cs) := hr4.drew
            clear hr4
            have hz0 := Badd_zeros c _ (ys ++ [128 + (e : Int)] ++ cs) e _ base hk4 rfl rfl rfl hr4' (by have := ho4.size; omega) (by simp; omega)
            have hsz : (w3.setCell ⟨g, i, none⟩ (.int .u8 (128 + (e : Int)))).drew.heap.size = w3.heap.size := by simp
            rw [hsz] at hz0
            have HZ := Lib.hid hz0
            have HB4 := Lib.hid hb4
            have HO4 := Lib.hid ho4
            clear hx hi hnl hcc hLl hlist hgo hk4 hb4 ho4 hr4' hz0 hsz hmk HB3 HK3 HR3 HO3 c1 c4 c5 cf4 cf5 gc gf c6
            refine HZ.out.mono ?_
            rintro e' w5 ⟨r5, rfl, hk5, hr5, ho5, hown5⟩
            have hx := HX.out
            have hi := HI.out
            have hnl := HE.out.2.1
            have hcc := HC.out
            have hk5' : Bld w5 c ⟨.nilIface, r5, false, .pointer none, ys.length, (1 : Nat), true, inc⟩ := hk5
            obtain ⟨g5, cap5, rfl, hbg5, hgl5, hcap5, hcm5⟩ := hr5.pos (by simp; omega)
            obtain ⟨L5, hL5⟩ : ∃ L5, (ys ++ [128 + (e : Int)] ++ cs ++ List.replicate e 0).length = L5 := ⟨_, rfl⟩
            have hLs : i + 1 + n + e = L5 := by rw [← hL5]; simp; omega
            rw [hL5] at hk5' hr5 hcap5 hown5
            rw [hi] at hk5'
            have hb5 := HB4.out.only ho5 (by simp [own, Value.ownBlock, hbc, hgb])
            have hgc5 : c ≠ g5 := fun e => hr5.ne hk5' (by decide) (by simp [own, Value.ownBlock, e])
            have hgb5 : b ≠ g5 := fun e => hr5.ne hb5 (by decide) (by simp [own, Value.ownBlock, e])
            have ho5' : Only (b :: c :: own (Value.slice (some ⟨g, 0, none⟩) L cap)) w1 w5 := HO4.out.then ho5 (fun i hi _ => List.mem_cons_of_mem _ hi)
            have hown5' : (Value.slice (some ⟨g5, 0, none⟩) L5 cap5).ownBlock = (Value.slice (some ⟨g, 0, none⟩) L cap).ownBlock ∨ ∀ k ∈ own (Value.slice (some ⟨g5, 0, none⟩) L5 cap5), w1.heap.size ≤ k := by
              rcases hown5 with h | h
              · exact .inl h
              · refine .inr fun k hk => ?_
                have h1 := h k hk
                have h2 := HO4.out.size
                omega
            have c1 := hk5'.c1
            have c4 := hk5'.c4
            have c5 := hk5'.c5
            obtain ⟨j, hj⟩ : ∃ j, i + 1 = j := ⟨_, rfl⟩
            obtain ⟨d, hd⟩ : ∃ d, j + e = d := ⟨_, rfl⟩
            have hs1 : IntKind.i64.wrap ((i : Int) + 1) = (j : Int) := by
              rw [show (i : Int) + 1 = (j : Int) by omega]
              exact IntWalk.i64_in _ (by omega)
            have hs2 : IntKind.i64.wrap ((j : Int) + (e : Int)) = (d : Int) := by
              rw [show (j : Int) + (e : Int) = (d : Int) by omega]
              exact IntWalk.i64_in _ (by omega)
            have hd1 : (d : Int) ≤ (L5 : Int) := by omega
            have hj1 : (j : Int) ≤ (L5 : Int) := by omega
            have hd2 : d ≤ L5 := by omega
            have hj2 : j ≤ L5 := by omega
            have hdc : ¬ cap5 = d := by omega
            have hjc : ¬ cap5 = j := by omega
            have hLc : L5 ≤ cap5 := hcap5
            have HJD := Lib.hid (And.intro hj (And.intro hd (And.intro hLs (And.intro hL5 (And.intro hnl (And.intro hi hbig))))))
            have HK5 := Lib.hid hk5'
            have HB5 := Lib.hid hb5
            have HR5 := Lib.hid hr5
            have HO5 := Lib.hid ho5'
            have HOW5 := Lib.hid hown5'
            have HCM5 := Lib.hid hcm5
            have HX2 := Lib.hid (And.intro hx hcc)
            clear hk5 hk5' hb5 hr5 ho5 ho5' hown5 hown5' hx hi hnl hcc hbg5 hgl5 hcap5 hcm5 hL5 hLs hj hd HZ HX HB4 HO4 hsub hbig
            go_wp2_with fail
            go_quiet (fail)
            obtain ⟨w6, hw6⟩ : ∃ w6, w5.drewN nq = w6 := ⟨_, rfl⟩
            rw [hw6]
            have HK6 := Lib.hid (hw6 ▸ HK5.out.drewN nq)
            have HB6 := Lib.hid (hw6 ▸ HB5.out.drewN nq)
            have HR6 : Hid (Row w6 base (.slice (some ⟨g5, 0, none⟩) L5 cap5) (ys ++ [128 + (e : Int)] ++ cs ++ List.replicate e 0)) := Lib.hid (hw6 ▸ HR5.out)
            have HO6 := Lib.hid (hw6 ▸ HO5.out.drewN nq)
            clear HK5 HB5 HR5 HO5 hw6 c1 c4 c5
            have c1 := HK6.out.c1
            go_wp2_with fail
            go_still_tail 14, (by kernel_rfl)
            change wpList _ _ _ _ _ (World.drew _)
            have hjd := HJD.out
            have hPl : (ys ++ [128 + (e : Int)]).length = j := by simp; omega
            have hall : ys ++ [128 + (e : Int)] ++ cs ++ List.replicate e 0 = (ys ++ [128 + (e : Int)]) ++ (cs ++ List.replicate e 0) := by simp
            have hdropj : (ys ++ [128 + (e : Int)] ++ cs ++ List.replicate e 0).drop j = cs ++ List.replicate e 0 := by
              rw [hall, List.drop_append_of_le_length (by omega), List.drop_of_length_le (by omega), List.nil_append]
            have hcs : ((ys ++ [128 + (e : Int)] ++ cs ++ List.replicate e 0).drop j).take cs.length = cs := by
              rw [hdropj, List.take_append_of_le_length (Nat.le_refl _), List.take_of_length_le (Nat.le_refl _)]
            have hspl : splice (ys ++ [128 + (e : Int)] ++ cs ++ List.replicate e 0) d cs = ys ++ [128 + (e : Int)] ++ (cs ++ List.replicate e 0).take e ++ cs := by
              unfold splice
              have h1 : (ys ++ [128 + (e : Int)] ++ cs ++ List.replicate e 0).drop (d + cs.length) = [] := List.drop_of_length_le (by omega)
              have h2 : (ys ++ [128 + (e : Int)] ++ cs ++ List.replicate e 0).take d = ys ++ [128 + (e : Int)] ++ (cs ++ List.replicate e 0).take e := by
                rw [hall, List.take_append, List.take_of_length_le (by omega), hPl, show d - j = e by omega]
              rw [h1, h2, List.append_nil]
            have hmin : cs.length = Nat.min (L5 - j) (L5 - d) := by show cs.length = min (L5 - j) (L5 - d); omega
            refine wpList_row_copy rfl (.tmp 118) (.tmp 124) rfl base g5 cap5 L5 d j (L5 - d) (cap5 - d) (L5 - j) (cap5 - j) (ys ++ [128 + (e : Int)] ++ cs ++ List.replicate e 0) cs rfl rfl HR6.out.drew hjd.2.2.2.1.symm hmin hcs (by omega) (by omega) ?_
            rw [hspl]
            intro w7 hr7 ho7
            have hk7 := HK6.out.drew.only ho7 (by simpa using hgc5)
            have hb7 := HB6.out.drew.only ho7 (by simpa using hgb5)
            have c4 := hk7.c4
            have cf4 := hk7.free 4
            have cf5 := hk7.free 5
            have c5 := hk7.c5
            have HK7 := Lib.hid hk7
            have HB7 := Lib.hid hb7
            have HR7 := Lib.hid hr7
            have HO7 := Lib.hid ho7
            clear hk7 hb7 hr7 ho7 hjd hPl hall hdropj hcs hspl hmin c1
            go_wp2_with fail
            go_meet
            obtain ⟨hj, hd, hLs, hL5, hnl, hi, hbig⟩ := HJD.out
            obtain ⟨⟨hlen, hL⟩, _⟩ := HX2.out
            obtain ⟨he, _, _, hfl⟩ := HE.out
            have hjl : ((cs ++ List.replicate e 0).take e).length = e := by (simp <;> omega)
            have hPl : ((ys ++ [128 + (e : Int)]).length : Int) = (j : Int) := by simp; omega
            have hPn : (ys ++ [128 + (e : Int)]).length = j := by omega
            have hdiv : (n : Int) / 256 ^ e = 0 := by
              have h1 := HNV.out
              have hp : (0 : Int) < 256 ^ e := Int.pow_pos (by decide)
              have h2 := Int.emod_lt_of_pos (n : Int) hp
              exact Int.ediv_eq_zero_of_lt (by omega) (by omega)
            have hz1 : 0 < (ys ++ [128 + (e : Int)]).length + ((cs ++ List.replicate e 0).take e).length := by omega
            have hz2 : (ys ++ [128 + (e : Int)]).length + ((cs ++ List.replicate e 0).take e).length + cs.length ≤ 2147483660 := by omega
            refine ⟨ys ++ [128 + (e : Int)], (cs ++ List.replicate e 0).take e, n, _, true, rfl, hn0, by omega, by omega, hz2, hz1, ?_, ?_, ?_, ?_, HOW5.out, ?_, ?_⟩
            · exact (HB7.out.far (p := ⟨c, 4, none⟩) hbc _).far (p := ⟨c, 5, none⟩) hbc _
            · rw [hPl, hjl]
              exact (HK7.out.set4 _).set5 _
            · exact HR7.out.only (l := [c]) (((Only.refl _ _).setCell (.inl (by simp)) _).setCell (.inl (by simp)) _) (by simp [own, Value.ownBlock, hgc5])
            · refine ((HO6.out.drew.then HO7.out ?_).setCell (.inl (by simp)) _).setCell (.inl (by simp)) _
              intro k hk hlt
              simp only [List.mem_singleton] at hk
              subst hk
              rcases HOW5.out with h | h
              · simp [own, Value.ownBlock] at h ⊢
                simp [h]
              · have := h k (by simp [own, Value.ownBlock])
                omega
            · intro _
              rw [hfl]
              refine ⟨_, rfl, ?_⟩
              rw [hjl, he, hnl]
              simp
            · intro h
              rw [hjl] at h
              exact absurd hdiv h
    case rest =>
      obtain ⟨zs, js, q, r', asn', rfl, q0, q1, hj4, hsz, hpos, hbw, hcw, hrw, how, hown, ho1, ho2⟩ := hcut
      obtain ⟨g', cap', rfl, hbg', hgl', hcap', hcm'⟩ := hrw.pos (by simp; omega)
      have hLe : (zs ++ js ++ cs).length = zs.length + js.length + cs.length := by simp; omega
      rw [hLe] at hcw hrw hcap' hown
      obtain ⟨k, hk⟩ : ∃ k, js.length = k := ⟨_, rfl⟩
      rw [hk] at hcw hrw hcap' hown ho1 ho2 hj4 hsz hpos
      obtain ⟨L', hL'⟩ : ∃ L', zs.length + k + cs.length = L' := ⟨_, rfl⟩
      rw [hL'] at hcw hrw hcap' hown
      have hgb' : b ≠ g' := fun e => hrw.ne hbw (by decide) (by simp [own, Value.ownBlock, e])
      have hgc' : c ≠ g' := fun e => hrw.ne hcw (by decide) (by simp [own, Value.ownBlock, e])
      have c5 := hcw.c5
      have HBW := Lib.hid hbw
      have HCW := Lib.hid hcw
      have HRW := Lib.hid hrw
      have HOW := Lib.hid how
      have HOWN := Lib.hid hown
      have HO12 := Lib.hid (And.intro ho1 ho2)
      have HKL := Lib.hid (And.intro hk (And.intro hL' (And.intro hsz (And.intro hbg' (And.intro hcap' hcm')))))
      have hk4 : (k : Int) ≤ 4 := by omega
      clear hbw hcw hrw how hown ho1 ho2 hk hL' hsz hpos hcap' hcm' hbg' hgl' hLe HB3 HK3 HR3 HO3 c6 hj4 HM HL
      go_wp2_with fail
      go_loopw [8, 9] (fun l i W => ∃ j : Nat, j ≤ k ∧ l = .int .i64 (q / 256 ^ j) ∧ i = .int .i64 ((k : Int) - 1 - j) ∧ Row W base (.slice (some ⟨g', 0, none⟩) L' cap') (zs ++ (js.take (k - j) ++ bigB q j) ++ cs) ∧ Only [g'] wc W) (fun _ i _ => (intOf i + 1).toNat)
      case atStart =>
        refine ⟨0, Nat.zero_le _, by simp, by simp, ?_, Only.refl _ _⟩
        have := HRW.out
        have hk := HKL.out.1
        rw [Nat.sub_zero, List.take_of_length_le (by omega), show bigB q 0 = [] from rfl, List.append_nil]
        exact this
      case round =>
        obtain ⟨j, hj, rfl, rfl, hrj, hoj⟩ := hrel
        have v0 : 0 ≤ q / 256 ^ j := Int.ediv_nonneg q0 (Int.le_of_lt (Int.pow_pos (by decide)))
        have v1 : q / 256 ^ j ≤ 2147483640 := by
          have := Int.ediv_le_self (a := q) (256 ^ j) q0
          omega
        have hcj := HCW.out.only hoj (by simpa using hgc')
        by_cases hlt : j < k
        · obtain ⟨t, ht⟩ : ∃ t : Nat, k = j + 1 + t := ⟨k - (j + 1), by omega⟩
          have hq : (k : Int) - 1 - j = (t : Int) := by omega
          rw [hq]
          have hkl := HKL.out
          have hidx : zs.length + t < L' := by omega
          have hLl : (zs ++ (js.take (k - j) ++ bigB q j) ++ cs).length = L' := by simp [bigB_len]; omega
          have c1 := hcj.c1
          have c4 := hcj.c4
          have gc := hrj.cell hLl.symm (zs.length + t) (by omega)
          have gf := hrj.free hLl.symm (zs.length + t)
          have hsum : IntKind.i64.wrap ((zs.length : Int) + (t : Int)) = ((zs.length + t : Nat) : Int) := by
            rw [show (zs.length : Int) + (t : Int) = ((zs.length + t : Nat) : Int) by omega]
            exact IntWalk.i64_in _ (by omega)
          obtain ⟨x, hx⟩ : ∃ x, q / 256 ^ j = x := ⟨_, rfl⟩
          rw [hx] at v0 v1 ⊢
          have hset := hrj.set hLl.symm (zs.length + t) (x % 256) (by omega)
          have hlist : (zs ++ (js.take (k - j) ++ bigB q j) ++ cs).set (zs.length + t) (x % 256) = zs ++ (js.take (k - (j + 1)) ++ bigB q (j + 1)) ++ cs := by
            have hl2 : (js.take (k - j)).length = t + 1 := by simp; omega
            rw [set_mid _ _ _ _ _ (by rw [List.length_append, bigB_len]; omega), List.set_append, if_pos (by omega), bigB_cons, hx]
            congr 2
            have e1 : k - j = t + 1 := by omega
            have e2 : k - (j + 1) = t := by omega
            rw [e1, e2]
            have hgt : t < js.length := by omega
            rw [List.take_succ_eq_append_getElem hgt, List.set_append, if_neg (by rw [List.length_take]; omega), show t - (js.take t).length = 0 by rw [List.length_take]; omega]
            simp
          rw [hlist] at hset
          obtain ⟨i, hi⟩ : ∃ i, zs.length + t = i := ⟨_, rfl⟩
          rw [hi] at gc gf hsum hset hidx
          have ht4 : (t : Int) ≤ 4 := by omega
          have hi0 : (0 : Int) ≤ (i : Int) := by omega
          have hi1 : (i : Int) < (L' : Int) := by omega
          have HSet := Lib.hid hset
          have HOJ := Lib.hid hoj
          have HX := Lib.hid hx
          have HTK := Lib.hid (And.intro ht hq)
          clear hrj hoj hcj hkl hLl hset hlist hlt hj hq hi ht hx
          go_wp2_with fail
          go_still_tail 13, (by kernel_rfl)
          change wpList _ _ _ _ _ (World.drew _)
          go_wp2_with fail
          go_roundw
          case rel =>
            have htk := HTK.out
            have hx := HX.out
            refine ⟨j + 1, by omega, ?_, ?_, ?_, ?_⟩
            · rw [← hx, Int.ediv_ediv_of_nonneg (Int.le_of_lt (Int.pow_pos (by decide))), ← Int.pow_succ]
            · exact congrArg _ (by omega)
            · exact HSet.out.drew
            · exact (HOJ.out.setCell (.inl (by simp)) _).drew
          case measure => simp [intOf]
        · obtain rfl : k = j := by omega
          have hq : (k : Int) - 1 - k = -1 := by omega
          rw [hq]
          rw [Nat.sub_self, List.take_zero, List.nil_append] at hrj
          have hkl := HKL.out
          have hbj := HBW.out.only hoj (by simpa using hgb')
          have hgb0 : g' ∉ [b, c] := by simp; exact ⟨Ne.symm hgb', Ne.symm hgc'⟩
          have hojj : Only (b :: c :: own (.slice (some ⟨g, 0, none⟩) L cap)) w1 wr := HOW.out.then hoj (by
            intro i hi hlt
            simp only [List.mem_singleton] at hi
            subst hi
            rcases HOWN.out with e | e
            · simp [own, Value.ownBlock] at e ⊢
              simp [e]
            · have := e i (by simp [own, Value.ownBlock])
              omega)
          have hown' : (Value.slice (some ⟨g', 0, none⟩) L' cap').ownBlock = (Value.slice (some ⟨g, 0, none⟩) L cap).ownBlock ∨ ∀ i ∈ own (Value.slice (some ⟨g', 0, none⟩) L' cap'), w1.heap.size ≤ i := HOWN.out
          by_cases hz : q / 256 ^ k = 0
          · obtain ⟨hs, e1, e2⟩ := HO12.out.1 hz
            rw [hz]
            have HQ1 := Lib.hid (HQ.out)
            rw [e1] at HQ1
            have b1 := hbj.c1
            have b2 := hbj.c2
            have bf1 := hbj.free 1
            have c1 := hcj.c1
            rw [hf1] at b2
            rw [← e2] at hrj
            have hfin : ∀ n, Q ((wr.drewN n).setCell ⟨b, 1, none⟩ (.slice (some ⟨g', 0, none⟩) L' cap')) := by
              intro n
              refine HQ1.out _ ⟨(hojj.drewN n).setCell (.inl (by simp)) _, _, (hbj.drewN n).set1 _, ?_, hown'⟩
              exact Row.only (w := wr) (l := [b]) hrj (((Only.refl _ _).drewN n).setCell (.inl (by simp)) _) (by simp [own, Value.ownBlock, hgb'])
            have HFin := Lib.hid hfin
            clear hfin hojj hbj hcj hrj hoj hkl e1 e2 hz HQ1 hown' hgb0 hq hlt hj v0 v1
            go_wp2_with fail
            go_quiet (fail)
            go_wp2_with fail
            go_end0
            exact ⟨rfl, HFin.out _⟩
          · have e1 := HO12.out.2 hz
            have hne : (q / 256 ^ k != 0) = true := bne_iff_ne.2 hz
            have HQ1 := Lib.hid (HQ.out)
            rw [e1] at HQ1
            have bf0 := hbj.free 0
            have b0 := hbj.c0
            have hlw := hbj.lt
            have HE := Lib.hid (fun s => HQ1.out ((wr.setCell ⟨b, 0, none⟩ (.iface 92 (.pointer (some ⟨wr.heap.size, 0, none⟩)))).alloc (.cells #[.string s] 94)) ⟨(hojj.setCell (.inl (by simp)) _).alloc _, 92, .pointer (some ⟨wr.heap.size, 0, none⟩), (hbj.set0 _).alloc _⟩)
            obtain ⟨x, hx⟩ : ∃ x, q / 256 ^ k = x := ⟨_, rfl⟩
            rw [hx] at hne ⊢
            clear hojj hbj hcj hrj hoj hkl e1 hz HQ1 hown' hgb0 hq hlt hj hx v0 v1
            go_wp2_with fail
            refine (errorsNew_any _ _).mono ?_
            rintro e w' ⟨rfl, rfl⟩
            go_wp2_with fail
            refine bodyPost_ret (results_none rfl _ _ _) rfl ?_
            exact ⟨rfl, HE.out _⟩
  · have b3 := hb1.c3
    rw [hch1] at b3
    have bf3 := hb1.free 3
    have b0 := hb1.c0
    have bf0 := hb1.free 0
    have c0 := hc1.c0
    rw [hce] at c0
    have HQ := Lib.hid (hq ((w1.setCell ⟨b, 3, none⟩ (.pointer none)).setCell ⟨b, 0, none⟩ (.iface T u)) (((Only.refl _ _).setCell (.inl (by simp)) _).setCell (.inl (by simp)) _) ((hb1.set3 _).set0 _))
    clear hq hb1 hch1 hc1 hce s1 HR HS
    go_wp2_with fail
    refine bodyPost_ret (results_none rfl _ _ _) rfl ?_
    exact ⟨rfl, HQ.out⟩
end Go.Proofs.Ytndnglpehghmeaa
