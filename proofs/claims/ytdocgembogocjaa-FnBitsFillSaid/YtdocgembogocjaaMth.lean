/- Integers and truths read by the package: contracts. -/
import Derived.Test.YtdocgembogocjaaOf
import Derived.Test.YtdocgembogocjaaInt
namespace Go.Proofs.Ytdocgembogocjaa
open Go.RowKit

theorem check_any (A : Option Addr) (n c : Nat) (xs : List Int) (w : World) (B : Nat) (h : Rd w B A xs) (hn : n = xs.length) :
    Calls Try.prog 49 #[.slice A n c] w fun e w' => e = .returned (.bool (intRight xs)) ∧ w = w' := by
  subst hn
  by_cases h0 : xs.length = 0
  · have HQ := Lib.hid (show intRight xs = false by unfold intRight; rw [decide_eq_false (by omega)])
    have hz : ((xs.length : Int) == 0) = true := by simp [h0]
    clear h h0
    go_enter Try.func49, Try.ntmps49
    go_wp2_with fail
    go_ret
    exact ⟨by rw [HQ.out]; try rfl, rfl⟩
  · have hz : ((xs.length : Int) == 0) = false := beq_eq_false_iff_ne.2 (by omega)
    by_cases h1 : xs.length = 1
    · have HQ := Lib.hid (show intRight xs = true by unfold intRight; rw [decide_eq_true (by omega)])
      have hz1 : ((xs.length : Int) == 1) = true := by simp [h1]
      clear h h0 h1
      go_enter Try.func49, Try.ntmps49
      go_wp2_with fail
      go_ret
      exact ⟨by rw [HQ.out]; try rfl, rfl⟩
    · have hz1 : ((xs.length : Int) == 1) = false := beq_eq_false_iff_ne.2 (by omega)
      obtain ⟨ab, aoff, rfl, hab, hcells⟩ := h.2 (by omega)
      have hcell0 := hcells 0 (by omega)
      rw [Nat.add_zero] at hcell0
      have hcell1 := hcells 1 (by omega)
      have hp0 : 0 < xs.length := by omega
      have hp1 : 1 < xs.length := by omega
      obtain ⟨x0, x1⟩ := Byt.getD h.byt 1
      have ha := u8_and128 _ x0 x1
      have HQ := Lib.hid (show intRight xs = decide (¬ (xs.getD 0 0 = 0 ∧ xs.getD 1 0 < 128) ∧ ¬ (xs.getD 0 0 = 255 ∧ 128 ≤ xs.getD 1 0)) by
        unfold intRight
        rw [decide_eq_decide]
        omega)
      clear h hcells h0 h1
      generalize xs.getD 0 0 = a at *
      generalize xs.getD 1 0 = b at *
      by_cases hlt : b < 128
      · rw [if_pos hlt] at ha
        by_cases ha0 : a = 0
        · have HR := Lib.hid (show intRight xs = false by rw [HQ.out, decide_eq_false (by omega)])
          clear hlt HQ x0 x1
          subst ha0
          go_enter Try.func49, Try.ntmps49
          go_wp2_with fail
          go_ret
          exact ⟨by rw [HR.out]; try rfl, rfl⟩
        · have HR := Lib.hid (show intRight xs = true by rw [HQ.out, decide_eq_true (by omega)])
          have hz2 : (a == 0) = false := by simpa using ha0
          clear hlt HQ x0 x1 ha0
          go_enter Try.func49, Try.ntmps49
          go_wp2_with fail
          all_goals
            go_ret
            exact ⟨by rw [HR.out]; try rfl, rfl⟩
      · rw [if_neg hlt] at ha
        by_cases ha0 : a = 255
        · have HR := Lib.hid (show intRight xs = false by rw [HQ.out, decide_eq_false (by omega)])
          clear hlt HQ x0 x1
          subst ha0
          go_enter Try.func49, Try.ntmps49
          go_wp2_with fail
          go_ret
          exact ⟨by rw [HR.out]; try rfl, rfl⟩
        · have HR := Lib.hid (show intRight xs = true by rw [HQ.out, decide_eq_true (by omega)])
          have hz2 : (a == 255) = false := by simpa using ha0
          clear hlt HQ x0 x1 ha0
          go_enter Try.func49, Try.ntmps49
          go_wp2_with fail
          all_goals
            go_ret
            exact ⟨by rw [HR.out]; try rfl, rfl⟩

/-- What asn1Signed leaves. -/
def Signed (w : World) (bo : Nat) (xs : List Int) (e : Ending) (w' : World) : Prop :=
  ∃ v, e = .returned (.bool (decide (xs.length ≤ 8))) ∧ Only [bo] w w' ∧ Var w' bo 2 (.int .i64 v) ∧ (xs.length ≤ 8 → v = sg xs xs.length)
set_option maxRecDepth 20000 in
theorem signed_any (bo : Nat) (A : Option Addr) (n c : Nat) (xs : List Int) (w : World) (B : Nat) (h : Rd w B A xs) (hn : n = xs.length) (h1 : 1 ≤ xs.length) (ho : Var w bo 2 (.int .i64 0)) (hB : B ≤ bo) :
    Calls Try.prog 50 #[.pointer (some ⟨bo, 0, none⟩), .slice A n c] w (Signed w bo xs) := by
  subst hn
  by_cases h8 : xs.length ≤ 8
  · have hd : decide ((8 : Int) < (xs.length : Int)) = false := decide_eq_false (by omega)
    have hfin : ∀ W, Only [bo] w W → Var W bo 2 (.int .i64 (sg xs xs.length)) → Signed w bo xs (.returned (.bool true)) W := fun W k v => ⟨_, by rw [decide_eq_true h8], k, v, fun _ => rfl⟩
    have HFI := Lib.hid hfin
    obtain ⟨ab, aoff, rfl, hab, hcells⟩ := h.2 (by omega)
    have HY := Lib.hid h.byt
    have HO := Lib.hid ho
    have HC := Lib.hid hcells
    have HAB := Lib.hid (show ab ≠ bo by omega)
    have HL := Lib.hid h8
    have H1 := Lib.hid h1
    have hlow : B ≤ w.heap.size := by have := ho.lt; omega
    have HABs := Lib.hid (show ab < w.heap.size by omega)
    clear hfin h ho hcells h8 h1 hab hlow hB
    go_enter Try.func50, Try.ntmps50
    go_wp2_with fail
    go_loopw [6] (fun i W => ∃ k : Nat, k ≤ xs.length ∧ i = .int .i64 k ∧ Var W bo 2 (.int .i64 (wrap64 (beN (xs.take k)))) ∧ Only [bo] w W) (fun i _ => xs.length - (intOf i).toNat)
    case atStart => exact ⟨0, Nat.zero_le _, rfl, (by rw [List.take_zero, beN_nil, IntWalk.wrap64_in 0 (by omega)]; exact HO.out), Only.refl _ _⟩
    case round =>
      obtain ⟨k, hk, rfl, hv, ho⟩ := hrel
      have hcell := hv.cell
      have hfree := hv.free
      by_cases hlt : k < xs.length
      · have hk8 : k < 8 := by have := HL.out; omega
        have hcl : ∀ W2, Only [bo] w W2 → W2.cell? ⟨ab, aoff + k, none⟩ = some (.int .u8 (xs.getD k 0)) := fun W2 h2 => (h2.cell (p := ⟨ab, aoff + k, none⟩) HABs.out (by simpa using HAB.out)).trans (HC.out k hlt)
        obtain ⟨x0, x1⟩ := Byt.getD HY.out k
        obtain ⟨b0, b1⟩ := beN_take_bd xs HY.out k 7 (by have := HL.out; omega)
        have b2 : beN (xs.take k) ≤ 72057594037927935 := by
          have : (256 : Int) ^ 7 = 72057594037927936 := by decide
          omega
        clear b1
        have hsu := Lib.hid (beN_take_succ xs k hlt)
        have KO := Lib.hid ho
        have HV := Lib.hid hv
        have hbn : ab ≠ bo := HAB.out
        clear ho hv
        generalize beN (xs.take k) = v at *
        generalize xs.getD k 0 = x at *
        have hw0 : wrap64 v = v := IntWalk.wrap64_in _ (by omega)
        rw [hw0] at hcell
        obtain ⟨V, rfl⟩ := Int.eq_ofNat_of_zero_le b0
        obtain ⟨X, rfl⟩ := Int.eq_ofNat_of_zero_le x0
        have e1 : bits .or .i64 (wrap64 ((V : Int) * 256)) (X : Int) = wrap64 ((V : Int) * 256 + X) := by
          have := or_byte64 (V * 256) X (by omega) (by omega) (by omega)
          rw [Int.natCast_mul] at this
          exact this
        obtain ⟨u, hu⟩ : ∃ u, wrap64 ((V : Int) * 256) = u := ⟨_, rfl⟩
        obtain ⟨z, hz⟩ : ∃ z, wrap64 ((V : Int) * 256 + X) = z := ⟨_, rfl⟩
        rw [hu, hz] at e1
        have HU := Lib.hid hu
        have HZ := Lib.hid hz
        clear hz
        go_wp2
        rw [HU.out]
        generalize hW2 : World.setCell wr ⟨bo, 0, none⟩ (.int .i64 u) = W2
        have hv2 : Var W2 bo 2 (.int .i64 u) := hW2 ▸ HV.out.set _
        have ho2 : Only [bo] w W2 := hW2 ▸ KO.out.setCell (.inl (by simp)) _
        have hcl2 := hcl W2 ho2
        have hcell2 := hv2.cell
        have hfree2 := hv2.free
        have HV2 := Lib.hid hv2
        have KO2 := Lib.hid ho2
        clear hv2 ho2 hcl hW2 hcell hfree hw0 hu
        go_still_tail 10, (by kernel_rfl)
        change wpList _ _ _ _ _ (World.drew _)
        go_wp2
        go_roundw
        case rel => exact ⟨k + 1, by omega, by go_num, by rw [hsu.out, HZ.out]; exact (HV2.out.set _).drew, (KO2.out.setCell (.inl (by simp)) _).drew⟩
        case measure => simp [intOf]; omega
      · have e : k = xs.length := by omega
        subst e
        have hs := sign_shift64 xs HY.out xs.length rfl H1.out HL.out
        have htk : xs.take xs.length = xs := List.take_length
        rw [htk] at hcell hv
        have KO := Lib.hid ho
        have HV := Lib.hid hv
        have hl8 := HL.out
        have hl1 := H1.out
        have hfin := HFI.out
        clear ho hv htk HFI hk hlt
        generalize beN xs = v at *
        generalize sg xs xs.length = z at *
        generalize hlen : xs.length = L at *
        obtain rfl | rfl | rfl | rfl | rfl | rfl | rfl | rfl : L = 1 ∨ L = 2 ∨ L = 3 ∨ L = 4 ∨ L = 5 ∨ L = 6 ∨ L = 7 ∨ L = 8 := by omega
        all_goals
          clear hl8 hl1 hlen
          simp at hs
          have HFI := Lib.hid hfin
          have HS := Lib.hid hs
          clear hfin hs
          go_wp2
          go_ret
          have h2 := HFI.out
          rw [← HS.out] at h2
          exact h2 _ ((KO.out.setCell (.inl (by simp)) _).setCell (.inl (by simp)) _) ((HV.out.set _).set _)
  · have hd : decide ((8 : Int) < (xs.length : Int)) = true := decide_eq_true (by omega)
    have HQ : Hid (Signed w bo xs (.returned (.bool false)) w) := Lib.hid ⟨0, by rw [decide_eq_false h8], Only.refl _ _, ho, fun h => absurd h h8⟩
    clear h ho h8 h1
    go_enter Try.func50, Try.ntmps50
    go_wp2_with fail
    go_ret
    exact HQ.out

/-- The number of contents that are no larger than a uint64. -/
def uintFits (c : List Int) : Bool := decide (c.getD 0 0 < 128 ∧ (c.length ≤ 8 ∨ c.length = 9 ∧ c.getD 0 0 = 0))
theorem uint_bd (xs : List Int) (hb : Byt xs) (hf : uintFits xs = true) (k : Nat) (hk : k < xs.length) : 0 ≤ beN (xs.take k) ∧ beN (xs.take k) ≤ 72057594037927935 := by
  unfold uintFits at hf
  simp only [decide_eq_true_eq] at hf
  have e7 : (256 : Int) ^ 7 = 72057594037927936 := by decide
  rcases Nat.lt_or_ge k 8 with h | h
  · obtain ⟨b0, b1⟩ := beN_take_bd xs hb k 7 (by omega)
    omega
  · have hk8 : k = 8 := by omega
    subst hk8
    obtain ⟨r, p, h0, h1, h2, h3⟩ := sg_eq xs 7 hb (by omega)
    have h9 : xs.getD 0 0 = 0 := by omega
    rw [h3, h9]
    omega
/-- What asn1Unsigned leaves. -/
def Unsigned (w : World) (bo : Nat) (xs : List Int) (e : Ending) (w' : World) : Prop :=
  ∃ v, e = .returned (.bool (uintFits xs)) ∧ Only [bo] w w' ∧ Var w' bo 31 (.int .u64 v) ∧ (uintFits xs = true → v = beN xs)
set_option maxRecDepth 20000 in
theorem unsigned_any (bo : Nat) (A : Option Addr) (n c : Nat) (xs : List Int) (w : World) (B : Nat) (h : Rd w B A xs) (hn : n = xs.length) (h1 : 1 ≤ xs.length) (ho : Var w bo 31 (.int .u64 0)) (hB : B ≤ bo) :
    Calls Try.prog 56 #[.pointer (some ⟨bo, 0, none⟩), .slice A n c] w (Unsigned w bo xs) := by
  subst hn
  obtain ⟨ab, aoff, rfl, hab, hcells⟩ := h.2 (by omega)
  have hcell0 := hcells 0 (by omega)
  rw [Nat.add_zero] at hcell0
  obtain ⟨x0, x1⟩ := Byt.getD h.byt 0
  have ha := u8_and128 _ x0 x1
  have hue : uintFits xs = decide (xs.getD 0 0 < 128 ∧ (xs.length ≤ 8 ∨ xs.length = 9 ∧ xs.getD 0 0 = 0)) := rfl
  have HBD' := Lib.hid (uint_bd xs h.byt)
  generalize xs.getD 0 0 = a0 at *
  have hp0 : 0 < xs.length := h1
  cases hu : uintFits xs with
  | true =>
    have hfin : ∀ W, Only [bo] w W → Var W bo 31 (.int .u64 (beN xs)) → Unsigned w bo xs (.returned (.bool true)) W := fun W k v => ⟨_, by rw [hu], k, v, fun _ => rfl⟩
    have HFI := Lib.hid hfin
    have HBD := Lib.hid (HBD'.out hu)
    have hu' := hu
    rw [hue] at hu'
    simp only [decide_eq_true_eq] at hu'
    rw [if_pos hu'.1] at ha
    have HY := Lib.hid h.byt
    have HO := Lib.hid ho
    have HC := Lib.hid hcells
    have HAB := Lib.hid (show ab ≠ bo by omega)
    have hlow : B ≤ w.heap.size := by have := ho.lt; omega
    have HABs := Lib.hid (show ab < w.heap.size by omega)
    have HL9 := Lib.hid (show xs.length ≤ 9 by omega)
    have hd9 : decide ((9 : Int) < (xs.length : Int)) = false := decide_eq_false (by omega)
    have hdc : ((xs.length : Int) == 9) = false ∨ (((xs.length : Int) == 9) = true ∧ (a0 != 0) = false) := by
      rcases hu'.2 with h8 | ⟨h9, h0⟩
      · exact .inl (beq_eq_false_iff_ne.2 (by omega))
      · exact .inr ⟨beq_iff_eq.2 (by omega), by rw [h0]; rfl⟩
    clear hue hfin h ho hcells h1 hab hlow hB hu hu' x0 x1
    rcases hdc with hd8 | ⟨hd8, hd0⟩
    all_goals
      go_enter Try.func56, Try.ntmps56
      go_wp2_with fail
      go_loopw [6] (fun i W => ∃ k : Nat, k ≤ xs.length ∧ i = .int .i64 k ∧ Var W bo 31 (.int .u64 (beN (xs.take k))) ∧ Only [bo] w W) (fun i _ => xs.length - (intOf i).toNat)
      case atStart => exact ⟨0, Nat.zero_le _, rfl, HO.out, Only.refl _ _⟩
      case round =>
        obtain ⟨k, hk, rfl, hv, ho⟩ := hrel
        have hcell := hv.cell
        have hfree := hv.free
        by_cases hlt : k < xs.length
        · have hk8 : k < 9 := by have := HL9.out; omega
          have hcl : ∀ W2, Only [bo] w W2 → W2.cell? ⟨ab, aoff + k, none⟩ = some (.int .u8 (xs.getD k 0)) := fun W2 h2 => (h2.cell (p := ⟨ab, aoff + k, none⟩) HABs.out (by simpa using HAB.out)).trans (HC.out k hlt)
          obtain ⟨y0, y1⟩ := Byt.getD HY.out k
          obtain ⟨b0, b1⟩ := HBD.out k hlt
          have hsu := Lib.hid (beN_take_succ xs k hlt)
          have KO := Lib.hid ho
          have HV := Lib.hid hv
          have hbn : ab ≠ bo := HAB.out
          clear ho hv ha hcell0
          generalize beN (xs.take k) = v at *
          generalize xs.getD k 0 = x at *
          have e1 : bits .or .u64 (v * 256) x = v * 256 + x := or_join_u64 _ _ 8 256 rfl (by omega) (by omega) y0 (by omega) (by omega)
          go_wp2
          generalize hW2 : World.setCell wr ⟨bo, 0, none⟩ (.int .u64 (v * 256)) = W2
          have hv2 : Var W2 bo 31 (.int .u64 (v * 256)) := hW2 ▸ HV.out.set _
          have ho2 : Only [bo] w W2 := hW2 ▸ KO.out.setCell (.inl (by simp)) _
          have hcl2 := hcl W2 ho2
          have hcell2 := hv2.cell
          have hfree2 := hv2.free
          have HV2 := Lib.hid hv2
          have KO2 := Lib.hid ho2
          clear hv2 ho2 hcl hW2 hcell hfree
          go_still_tail 10, (by kernel_rfl)
          change wpList _ _ _ _ _ (World.drew _)
          go_wp2
          go_roundw
          case rel => exact ⟨k + 1, by omega, by go_num, by rw [hsu.out]; exact (HV2.out.set _).drew, (KO2.out.setCell (.inl (by simp)) _).drew⟩
          case measure => simp [intOf]; omega
        · have e : k = xs.length := by omega
          subst e
          rw [List.take_length] at hv
          have HV := Lib.hid hv
          have KO := Lib.hid ho
          clear hv ho
          go_wp2
          go_ret
          exact HFI.out _ KO.out HV.out
  | false =>
    have HQ : Hid (Unsigned w bo xs (.returned (.bool false)) w) := Lib.hid ⟨0, by rw [hu], Only.refl _ _, ho, fun h => by rw [hu] at h; cases h⟩
    rw [hue] at hu
    simp only [decide_eq_false_iff_not] at hu
    by_cases h9 : 9 < xs.length
    · have hd : decide ((9 : Int) < (xs.length : Int)) = true := decide_eq_true (by omega)
      clear hue h ho h1 hcells hu h9 x0 x1
      go_enter Try.func56, Try.ntmps56
      go_wp2_with fail
      go_ret
      exact HQ.out
    · have hd : decide ((9 : Int) < (xs.length : Int)) = false := decide_eq_false (by omega)
      by_cases h0 : xs.length = 9 ∧ a0 ≠ 0
      · have hd8 : ((xs.length : Int) == 9) = true := beq_iff_eq.2 (by omega)
        have hd0 : (a0 != 0) = true := by simpa using h0.2
        clear hue h ho h1 hcells hu h9 x0 x1 h0
        go_enter Try.func56, Try.ntmps56
        go_wp2_with fail
        go_ret
        exact HQ.out
      · have hhi : ¬ a0 < 128 := by omega
        rw [if_neg hhi] at ha
        have hd8 : (((xs.length : Int) == 9) = false) ∨ (((xs.length : Int) == 9) = true ∧ (a0 != 0) = false) := by
          by_cases e9 : xs.length = 9
          · exact absurd ⟨e9, by omega⟩ h0
          · exact .inl (beq_eq_false_iff_ne.2 (by omega))
        clear hue h ho h1 hcells hu h9 x0 x1 h0 hhi
        rcases hd8 with hd8 | ⟨hd8, hd0⟩
        all_goals
          go_enter Try.func56, Try.ntmps56
          go_wp2_with fail
          go_ret
          exact HQ.out
end Go.Proofs.Ytdocgembogocjaa
