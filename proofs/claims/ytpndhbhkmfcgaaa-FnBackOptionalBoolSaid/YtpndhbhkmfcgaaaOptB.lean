/- An optional truth read, the package's and the thin package's reader: contracts. -/
import Derived.Test.YtpndhbhkmfcgaaaIm4
namespace Go.Proofs.Ytpndhbhkmfcgaaa
open Go.RowKit

def optBool (xs : List Int) (tag : Int) (d : Bool) : Option (Bool × List Int) := if peek xs tag then (firstOf xs tag).bind (fun p => (asOf boolOf p.1 1).map fun q => (q.1, p.2)) else some (d, xs)

theorem SReadOptBool_of (b bo : Nat) (tag : Int) (d x0 : Bool) (xs : List Int) (w : World) (B : Nat) (h : Sl w B b 43 xs) (ho : Var w bo 4 (.bool x0)) (hbo : bo ≠ b) (hB : B ≤ bo) (hn : xs.length ≤ 4194304) :
    Calls Try.prog 36 #[.pointer (some ⟨b, 0, none⟩), .pointer (some ⟨bo, 0, none⟩), .int .u8 tag, .bool d] w (GaveV .bool w B b bo 4 (optBool xs tag d)) := by
  have H := Lib.hid (fun W h' ho' hp' => SReadOptional_of b (w.heap.size + 1) w.heap.size 43 tag false [] xs W B h' ho' hp' (by have := h.lt; omega) (by have := h.lt; omega) (by omega) h.low hn (by simp))
  have HH := Lib.hid h
  have HO := Lib.hid ho
  have HL := Lib.hid (And.intro h.lt ho.lt)
  have HE := Lib.hid hbo
  have HB := Lib.hid hB
  clear h ho hbo hB hn
  cases d with
  | true =>
    go_enter Try.func36, Try.ntmps36
    go_wp2_with fail
    refine (H.out _ ((HH.out.alloc _).alloc _) (Sl.new _ B _ _ (by simp) (by have := HH.out.low; simp; omega)) ((Var.new _ _ _).alloc _)).mono ?_
    rintro e w1 ⟨ok, zs, ys, rfl, hk, hzs, hys, hpr, hlz, hly, hg⟩
    have K : Hid (Only [b] w w1) := Lib.hid ((((Only.refl _ _).alloc _).alloc _).then hk (by
      intro i hi hlt
      simp at hi ⊢
      omega))
    have hv1 : Var w1 bo 4 (.bool x0) := ((HO.out.alloc _).alloc _).only hk (by have := HE.out; have := HL.out; simp; omega)
    have HV1 := Lib.hid hv1
    have HYS := Lib.hid hys
    have HLY := Lib.hid hly
    have HLZ := Lib.hid hlz
    have hsz := hk.size
    simp at hsz
    have HS2 := Lib.hid hsz
    clear hk hys hly hlz H HH HO hsz
    cases ok with
    | false =>
      have HG : Hid (optBool xs tag true = none) := Lib.hid (by
        unfold readOpt at hg
        unfold optBool
        revert hg
        cases peek xs tag with
        | false => intro h; exact absurd h.1 (by simp)
        | true =>
          simp only [if_true]
          cases firstOf xs tag with
          | none => intro _; rfl
          | some q => intro h; exact absurd h.1 (by simp))
      clear hg hzs hpr hv1
      go_wp2_with fail
      go_ret
      exact ⟨false, x0, ys, rfl, K.out.more (by simp), HV1.out, HYS.out, HLY.out, by rw [HG.out]; rfl⟩
    | true =>
      have hcp := hpr.cell
      cases hpk : peek xs tag with
      | false =>
        rw [hpk] at hcp
        have HG : Hid (optBool xs tag true = some (true, ys)) := Lib.hid (by rw [readOpt_no hpk] at hg; unfold optBool; rw [hpk, hg.2.2]; rfl)
        have hfo := hv1.free
        have hco := hv1.cell
        clear hg hzs hpr hpk hv1
        go_wp2_with fail
        go_ret
        exact ⟨true, true, ys, rfl, (K.out.more (by simp)).setCell (.inl (by simp)) _, HV1.out.set _, HYS.out.far (fun e => HE.out e.symm) HB.out _, HLY.out, by rw [HG.out]; exact ⟨rfl, rfl, rfl⟩⟩
      | true =>
        rw [hpk] at hcp
        rw [readOpt_yes hpk] at hg
        have HG : Hid (optBool xs tag true = (asOf boolOf zs 1).map fun q => (q.1, ys)) := Lib.hid (by
          unfold optBool
          rw [hpk, if_pos rfl]
          revert hg
          cases firstOf xs tag with
          | none => intro h; cases h
          | some q =>
            rintro ⟨_, h1, h2⟩
            subst h1 h2
            rfl)
        have H2 := Lib.hid (SReadBool_of (w.heap.size + 1) bo x0 zs w1 B hzs hv1 (by have := HL.out; omega) HB.out HLZ.out)
        clear hg hzs hpr hpk hv1
        go_wp2_with fail
        refine H2.out.mono ?_
        rintro e w2 ⟨ok2, y, rs, rfl, hk2, hv2, hrs, hlr, hg2⟩
        have hy2 : Sl w2 B b 43 ys := HYS.out.only hk2 (by have := HE.out; have := HL.out; simp; omega) (by have := HL.out; have := HB.out; have := HS2.out; simp; omega)
        have hk3 : Only [b, bo] w w2 := (K.out.more (by simp)).then hk2 (by
          intro i hi hlt
          simp at hi ⊢
          omega)
        have hg3 : Got (optBool xs tag true) ok2 y ys := by
          rw [HG.out]
          revert hg2
          cases asOf boolOf zs 1 with
          | none => intro h; exact h
          | some q =>
            rintro ⟨h1, h2, _⟩
            exact ⟨h1, h2, rfl⟩
        have HF := Lib.hid (And.intro hk3 (And.intro hv2 (And.intro hy2 hg3)))
        clear hk2 hv2 hrs hlr hg2 hy2 hk3 hg3
        cases ok2
        all_goals
          go_wp2_with fail
          go_ret
          exact ⟨_, y, ys, rfl, HF.out.1, HF.out.2.1, HF.out.2.2.1, HLY.out, HF.out.2.2.2⟩
  | false =>
    go_enter Try.func36, Try.ntmps36
    go_wp2_with fail
    refine (H.out _ ((HH.out.alloc _).alloc _) (Sl.new _ B _ _ (by simp) (by have := HH.out.low; simp; omega)) ((Var.new _ _ _).alloc _)).mono ?_
    rintro e w1 ⟨ok, zs, ys, rfl, hk, hzs, hys, hpr, hlz, hly, hg⟩
    have K : Hid (Only [b] w w1) := Lib.hid ((((Only.refl _ _).alloc _).alloc _).then hk (by
      intro i hi hlt
      simp at hi ⊢
      omega))
    have hv1 : Var w1 bo 4 (.bool x0) := ((HO.out.alloc _).alloc _).only hk (by have := HE.out; have := HL.out; simp; omega)
    have HV1 := Lib.hid hv1
    have HYS := Lib.hid hys
    have HLY := Lib.hid hly
    have HLZ := Lib.hid hlz
    have hsz := hk.size
    simp at hsz
    have HS2 := Lib.hid hsz
    clear hk hys hly hlz H HH HO hsz
    cases ok with
    | false =>
      have HG : Hid (optBool xs tag false = none) := Lib.hid (by
        unfold readOpt at hg
        unfold optBool
        revert hg
        cases peek xs tag with
        | false => intro h; exact absurd h.1 (by simp)
        | true =>
          simp only [if_true]
          cases firstOf xs tag with
          | none => intro _; rfl
          | some q => intro h; exact absurd h.1 (by simp))
      clear hg hzs hpr hv1
      go_wp2_with fail
      go_ret
      exact ⟨false, x0, ys, rfl, K.out.more (by simp), HV1.out, HYS.out, HLY.out, by rw [HG.out]; rfl⟩
    | true =>
      have hcp := hpr.cell
      cases hpk : peek xs tag with
      | false =>
        rw [hpk] at hcp
        have HG : Hid (optBool xs tag false = some (false, ys)) := Lib.hid (by rw [readOpt_no hpk] at hg; unfold optBool; rw [hpk, hg.2.2]; rfl)
        have hfo := hv1.free
        have hco := hv1.cell
        clear hg hzs hpr hpk hv1
        go_wp2_with fail
        go_ret
        exact ⟨true, false, ys, rfl, (K.out.more (by simp)).setCell (.inl (by simp)) _, HV1.out.set _, HYS.out.far (fun e => HE.out e.symm) HB.out _, HLY.out, by rw [HG.out]; exact ⟨rfl, rfl, rfl⟩⟩
      | true =>
        rw [hpk] at hcp
        rw [readOpt_yes hpk] at hg
        have HG : Hid (optBool xs tag false = (asOf boolOf zs 1).map fun q => (q.1, ys)) := Lib.hid (by
          unfold optBool
          rw [hpk, if_pos rfl]
          revert hg
          cases firstOf xs tag with
          | none => intro h; cases h
          | some q =>
            rintro ⟨_, h1, h2⟩
            subst h1 h2
            rfl)
        have H2 := Lib.hid (SReadBool_of (w.heap.size + 1) bo x0 zs w1 B hzs hv1 (by have := HL.out; omega) HB.out HLZ.out)
        clear hg hzs hpr hpk hv1
        go_wp2_with fail
        refine H2.out.mono ?_
        rintro e w2 ⟨ok2, y, rs, rfl, hk2, hv2, hrs, hlr, hg2⟩
        have hy2 : Sl w2 B b 43 ys := HYS.out.only hk2 (by have := HE.out; have := HL.out; simp; omega) (by have := HL.out; have := HB.out; have := HS2.out; simp; omega)
        have hk3 : Only [b, bo] w w2 := (K.out.more (by simp)).then hk2 (by
          intro i hi hlt
          simp at hi ⊢
          omega)
        have hg3 : Got (optBool xs tag false) ok2 y ys := by
          rw [HG.out]
          revert hg2
          cases asOf boolOf zs 1 with
          | none => intro h; exact h
          | some q =>
            rintro ⟨h1, h2, _⟩
            exact ⟨h1, h2, rfl⟩
        have HF := Lib.hid (And.intro hk3 (And.intro hv2 (And.intro hy2 hg3)))
        clear hk2 hv2 hrs hlr hg2 hy2 hk3 hg3
        cases ok2
        all_goals
          go_wp2_with fail
          go_ret
          exact ⟨_, y, ys, rfl, HF.out.1, HF.out.2.1, HF.out.2.2.1, HLY.out, HF.out.2.2.2⟩

set_option maxHeartbeats 800000 in
theorem ImReadOptionalBool_of (A : Option Addr) (n c : Nat) (xs : List Int) (w : World) (B : Nat) (h : Rd w B A xs) (hn : n = xs.length) (hb : xs.length ≤ 4194304) (tag : Int) (d : Bool) (ht : 0 ≤ tag ∧ tag ≤ 255) :
    Calls Try.prog 20 #[.slice A n c, .int .i64 tag, .bool d] w (ResV Value.bool w (optBool xs tag d)) := by
  have H := Lib.hid (str_any A n c xs w B h hn (by omega))
  have hby := h.byt
  have hwt : IntKind.u8.wrap tag = tag := wrap_id_u8 _ ht.1 ht.2
  clear ht
  have HY := Lib.hid hby
  have HB := Lib.hid hb
  clear h hn hb hby
  cases d
  all_goals
    go_enter Try.func20, Try.ntmps20
    go_wp2_with fail
    refine H.out.mono ?_
    rintro e w1 ⟨A1, c1, rfl, hc1, hm1, hown, hk1⟩
    have R1 := Lib.hid (Rd.of_own HY.out hown)
    have K1 := Lib.hid hk1
    clear hown hk1 H
    go_wp2_with fail
    refine (SReadOptBool_of w1.heap.size (w1.heap.size + 1) tag _ false xs _ w1.heap.size ?s0 ?s1 (by omega) (by omega) HB.out).mono ?_
    case s0 => exact ⟨Nat.le_refl _, A1, c1, (Var.new _ _ _).alloc _, hc1, hm1, (R1.out.alloc (Nat.le_refl _) _).alloc (by simp <;> omega) _⟩
    case s1 => exact Var.new' _ _ _ _ (by simp)
    rintro e w2 ⟨ok, x, ys, rfl, ho2, hvo, hs2, hly, hg⟩
    have HG := Lib.hid hg
    have HLY := Lib.hid (show ys.length ≤ 140737488355328 by omega)
    have HYB := Lib.hid hs2.byt
    have HLL := Lib.hid hly
    clear hg hly
    have hk2 : Only [] w w2 := ((K1.out.alloc _).alloc _).then ho2 (by have := K1.out.size; simp; omega)
    obtain ⟨_, A2, c2, hvi, hc2, hm2, hr2⟩ := hs2
    have hci := hvi.cell
    have LI := Lib.hid hvi.lt
    have R2 := Lib.hid hr2
    have K2 := Lib.hid hk2
    have hco1 := hvo.cell
    have LO1 := Lib.hid hvo.lt
    clear hr2 hk2 hvi ho2 hvo
    go_wp2_with fail
    go_region_held3 (fun w' => w'.cell? ⟨w1.heap.size, 0, none⟩ = some (.slice A2 ys.length c2) ∧ w'.cell? ⟨w1.heap.size + 1, 0, none⟩ = some (Value.bool x)) (first | exact ⟨hci, hco1⟩ | exact ⟨hciw3, hco1w3⟩) (first | (go_at_call 23; have hq : Rd w2.drew w1.heap.size A2 ys := R2.out.drew; (with_reducible refine (copied_any A2 _ c2 ys w2.drew w1.heap.size hq rfl HLY.out).mono ?_); clear hq; rintro e w3 ⟨A3, c3, rfl, hc3, hm3, hown3, hk3⟩; have hciw3 := (hk3.cell (p := ⟨w1.heap.size, 0, none⟩) LI.out (by simp)).trans hci; have hco1w3 := (hk3.cell (p := ⟨w1.heap.size + 1, 0, none⟩) LO1.out (by simp)).trans hco1; have R3n := Lib.hid (Rd.of_own HYB.out hown3); have K3 := Lib.hid hk3; clear hown3 hk3))
    all_goals
      go_wp2
      go_ret3
      exact ⟨ok, x, ys, A3, c3, rfl, R3n.out, K2.out.drew.trans K3.out, HLL.out, HG.out⟩


end Go.Proofs.Ytpndhbhkmfcgaaa
