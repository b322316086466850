/- The reference's checks of steps: contracts. The reference's checks of steps: contracts, more. -/
import Derived.Test.YtndnglpehghmeaaZ6
/-! ### The reference's checks of steps: contracts. -/
namespace Go.Proofs.Ytndnglpehghmeaa
open Go.RowKit

theorem meas (n j : Nat) (h : (j : Int) < (n : Int)) : n - ((j : Int) + 1).toNat < n - (j : Int).toNat := by omega
/-- No list within steps is longer than memory. -/
def Sz : Its → Prop
  | .nil => True
  | .cons _ _ _ d o kids rest => d.length ≤ 140737488355328 ∧ o.length ≤ 140737488355328 ∧ kids.len ≤ 140737488355328 ∧ Sz kids ∧ Sz rest
/-- How many steps there are within the steps of a list. -/
def kc : Its → Nat
  | .nil => 0
  | .cons _ _ _ _ _ kids rest => kids.len + kc kids + kc rest
/-- The cells of the first step that is left. -/
theorem LeftAt.cells {w W : World} {B : Nat} {A : Option Addr} {j : Nat} {k n t : Int} {d o : List Int} {kids rest : Its} (h : LeftAt w B A j (.cons k n t d o kids rest)) (hk : ∀ p : Addr, p.block < B → W.cell? p = w.cell? p) :
    ∃ blk off Ad cd Ao co Ak ck, A = some ⟨blk, off, none⟩ ∧ blk < B ∧ (∀ (q : Nat) (u : Value), (itemCells k n t d o Ad cd Ao co Ak kids.len ck)[q]? = some u → W.cell? ⟨blk, off + j * 6 + q, none⟩ = some u) ∧
      ((-9223372036854775808 ≤ k ∧ k ≤ 9223372036854775807) ∧ (-9223372036854775808 ≤ n ∧ n ≤ 9223372036854775807) ∧ (-9223372036854775808 ≤ t ∧ t ≤ 9223372036854775807)) ∧
      Rd W B Ad d ∧ (d.length ≤ cd ∧ cd ≤ maxLen) ∧ RdI W B Ao o ∧ (o.length ≤ co ∧ co ≤ maxLen) ∧ (kids.len ≤ ck ∧ ck ≤ maxLen) ∧ ItsRd W B Ak kids ∧ LeftAt w B A (j + 1) rest := by
  obtain ⟨blk, off, rfl, hbl, Ad, cd, Ao, co, Ak, ck, hcs, r2, r3, r4, r5, r6, r7, r8, r9, r10, r11, r12, r13, r14⟩ := h (by simp [Its.len])
  refine ⟨blk, off, Ad, cd, Ao, co, Ak, ck, rfl, hbl, ?_, ⟨r2, r3, r4⟩, r5.keep hk, ⟨r6, r7⟩, r8.keep hk, ⟨r9, r10⟩, ⟨r11, r12⟩, ?_, LeftAt.next hbl r14⟩
  · intro q u hq
    rw [Nat.mul_comm j 6]
    exact (hk _ hbl).trans (hcs q u hq)
  · exact ItsRd.keep (w := w) (fun hp => by obtain ⟨b', off', e, hb', h⟩ := r13 hp; exact ⟨b', off', e, hb', h⟩) hk
theorem only_keep {w W : World} {B : Nat} (ho : Only [] w W) (hB : B ≤ w.heap.size) : ∀ p : Addr, p.block < B → W.cell? p = w.cell? p := fun _ hp => (ho.below (by simp) hB).cell hp

def ItemsOK (its : Its) : Prop := ∀ (m : Int) (A : Option Addr) (n c : Nat) (w : World) (B : Nat), 0 ≤ m → m ≤ 1000 → ItsRd w B A its → n = its.len → n ≤ 140737488355328 → B ≤ w.heap.size → Sz its →
  Calls Try.prog 15 #[.slice A n c, .int .i64 m] w fun e w' => ∃ v : Int, e = .returned (.int .i64 v) ∧ 0 ≤ v ∧ v ≤ m + 140737488355328 ∧ (v ≤ m → ((its.len + kc its : Nat) : Int) ≤ v) ∧ Only [] w w'
set_option maxHeartbeats 1000000 in
theorem items_ok (its : Its) (hall : Kids ItemsOK its) : ItemsOK its := by
  intro m A n c w B hm0 hm1 hi hn hn1 hB hs
  have H0 : Hid (LeftAt w B A 0 its ∧ 0 + its.len = n ∧ Kids ItemsOK its ∧ Sz its ∧ ((n : Int) ≤ m → ((n + kc its : Nat) : Int) ≤ (n : Int) + kc its) ∧ Only [] w w) := Lib.hid ⟨hi, by omega, hall, hs, fun _ => by omega, Only.refl _ _⟩
  obtain ⟨tot, htot⟩ : ∃ tot : Nat, n + kc its = tot := ⟨_, rfl⟩
  rw [← hn, htot]
  rw [htot] at H0
  have HB := Lib.hid hB
  clear hi hn hB hs hall htot
  go_enter Try.func15, Try.ntmps15
  go_wp2_with fail
  go_loopw [5, 6] (fun x y W => ∃ (j : Nat) (its' : Its) (v : Int), x = .int .i64 v ∧ y = .int .i64 (j : Int) ∧ 0 ≤ v ∧ v ≤ m + 140737488355328 ∧ LeftAt w B A j its' ∧ j + its'.len = n ∧ Kids ItemsOK its' ∧ Sz its' ∧ (v ≤ m → (tot : Int) ≤ v + kc its') ∧ Only [] w W) (fun _ y _ => n - (intOf y).toNat)
  case atStart => exact ⟨0, its, n, rfl, by simp, by omega, by omega, H0.out⟩
  case round =>
    obtain ⟨j, its', v, rfl, rfl, v0, v1, hl, hj, hall, hs, hv, ho⟩ := hrel
    clear H0
    cases its' with
    | nil =>
      have hjn : j = n := hj
      subst hjn
      have HQ := Lib.hid (And.intro hv ho)
      clear hl hj hall hs hv ho
      go_wp2_with fail
      go_ret
      exact ⟨v, rfl, v0, v1, fun h => by have := HQ.out.1 h; simpa [kc] using this, HQ.out.2⟩
    | cons k i t d o kids rest =>
      have hlt : (j : Int) < (n : Int) := by simp only [Its.len] at hj; omega
      by_cases hvm : v ≤ m
      · obtain ⟨blk, off, Ad, cd, Ao, co, Ak, ck, rfl, hbl, hcell, hrn, _, _, _, _, hck, hkd, hnx⟩ := hl.cells (only_keep ho HB.out)
        have hc5 := hcell 5 _ rfl
        have HC := Lib.hid (fun (W : World) (hk : Only [] wr W) => hall.1 (m - v) Ak kids.len ck W B (by omega) (by omega) (hkd.only hk (by simp) (Nat.le_trans HB.out ho.size)) rfl hs.2.2.1 (Nat.le_trans HB.out (Nat.le_trans ho.size hk.size)) hs.2.2.2.1)
        have HK := Lib.hid ho
        have HN : Hid (∀ (u : Int) W, 0 ≤ u → u ≤ m - v + 140737488355328 → (u ≤ m - v → ((kids.len + kc kids : Nat) : Int) ≤ u) → Only [] wr W → 0 ≤ v + u ∧ v + u ≤ m + 140737488355328 ∧ LeftAt w B (some ⟨blk, off, none⟩) (j + 1) rest ∧ j + 1 + rest.len = n ∧ Kids ItemsOK rest ∧ Sz rest ∧ (v + u ≤ m → (tot : Int) ≤ v + u + kc rest) ∧ Only [] w W) := Lib.hid (fun u W h0 h1 h2 h3 => ⟨by omega, by omega, hnx, by simp only [Its.len] at hj; omega, hall.2, hs.2.2.2.2, fun h => by have := hv hvm; have := h2 (by omega); simp only [kc] at *; omega, ho.trans h3⟩)
        have hmv : wrap64 (m - v) = m - v := by unfold wrap64; omega
        have hj64 : wrap64 ((j : Int) + 1) = (j : Int) + 1 := by unfold wrap64; omega
        clear hl hall hs hv ho hcell hrn hck hkd hnx
        go_wp2_with fail
        refine (HC.out _ (Only.refl _ _)).mono ?_
        rintro e w1 ⟨u, rfl, u0, u1, u2, hk1⟩
        have HS := Lib.hid (HN.out u w1 u0 u1 u2 hk1)
        have hvu : wrap64 (v + u) = v + u := by unfold wrap64; omega
        have HJ := Lib.hid (And.intro hlt hn1)
        clear u0 u1 u2 hk1 HC HN hc5 hmv v0 v1 hm0 hm1 hvm hlt hbl hn1 HK
        go_wp2_with fail
        go_roundw
        case rel =>
          refine ⟨j + 1, rest, v + u, ?_, ?_, HS.out⟩
          · rw [hvu]
          · rw [hj64]; rfl
        case measure =>
          rw [hj64]
          exact meas n j HJ.out.1
      · clear hl hall hs hv hj
        have HQ := Lib.hid ho
        clear ho
        go_wp2_with fail
        go_ret
        exact ⟨v, rfl, v0, v1, fun h => absurd h (by omega), HQ.out⟩

theorem iw_id (x : Int) (h0 : 0 ≤ x) (h1 : x ≤ 2000000000000000000) : IntKind.i64.wrap x = x := by simp [IntKind.wrap, IntKind.bits, IntKind.signed]; omega
theorem wrap64_id (x : Int) (h0 : 0 ≤ x) (h1 : x ≤ 2000000000000000000) : wrap64 x = x := by unfold wrap64; omega
theorem hold_sums (v a b c r tot : Nat) (h : v + (a + 9 * b + c + r) = tot) (ht : (tot : Int) ≤ 1407374883553280000) :
    IntKind.i64.wrap (IntKind.i64.wrap (IntKind.i64.wrap ((v : Int) + (a : Int)) + IntKind.i64.wrap (9 * (b : Int))) + (c : Int)) = ((v + a + 9 * b + c : Nat) : Int) := by
  have hi : (v : Int) + ((a : Int) + 9 * (b : Int) + (c : Int) + (r : Int)) = (tot : Int) := by rw [← h]; simp
  rw [show ((v + a + 9 * b + c : Nat) : Int) = (v : Int) + (a : Int) + 9 * (b : Int) + (c : Int) by simp]
  have h1 := Int.natCast_nonneg v
  have h2 := Int.natCast_nonneg a
  have h3 := Int.natCast_nonneg b
  have h4 := Int.natCast_nonneg c
  have h5 := Int.natCast_nonneg r
  generalize (v : Int) = V at *
  generalize (a : Int) = A at *
  generalize (b : Int) = B at *
  generalize (c : Int) = C at *
  generalize (r : Int) = R at *
  generalize (tot : Int) = T at *
  clear h
  rw [iw_id (V + A) (by omega) (by omega), iw_id (9 * B) (by omega) (by omega), iw_id (V + A + 9 * B) (by omega) (by omega), iw_id _ (by omega) (by omega)]
/-- How many bytes and arcs steps hold. -/
def hold : Its → Nat
  | .nil => 0
  | .cons _ _ _ d o kids rest => d.length + 9 * o.length + hold kids + hold rest
theorem hold_le (its : Its) (h : Sz its) : hold its ≤ (its.len + kc its) * 1407374883553280 := by
  induction its with
  | nil => simp [hold]
  | cons k n t d o kids rest ihk ihr =>
    obtain ⟨h1, h2, h3, h4, h5⟩ := h
    have := ihk h4
    have := ihr h5
    simp only [hold, Its.len, kc]
    omega
def HoldsOK (its : Its) : Prop := ∀ (A : Option Addr) (n c : Nat) (w : World) (B : Nat), ItsRd w B A its → n = its.len → B ≤ w.heap.size → Sz its → its.len + kc its ≤ 1000 →
  Calls Try.prog 16 #[.slice A n c] w fun e w' => e = .returned (.int .i64 ((hold its : Nat) : Int)) ∧ Only [] w w'
set_option maxHeartbeats 1000000 in
theorem holds_ok (its : Its) (hall : Kids HoldsOK its) : HoldsOK its := by
  intro A n c w B hi hn hB hs hc
  have H0 : Hid (LeftAt w B A 0 its ∧ 0 + its.len = n ∧ Kids HoldsOK its ∧ Sz its ∧ its.len + kc its ≤ 1000 ∧ 0 + hold its = hold its ∧ Only [] w w) := Lib.hid ⟨hi, by omega, hall, hs, hc, by omega, Only.refl _ _⟩
  have hn1 : n ≤ 1000 := by omega
  obtain ⟨tot, htot⟩ : ∃ tot : Nat, hold its = tot := ⟨_, rfl⟩
  have htl : (tot : Int) ≤ 1407374883553280000 := by
    have h1 := hold_le its hs
    have h2 : (its.len + kc its) * 1407374883553280 ≤ 1000 * 1407374883553280 := Nat.mul_le_mul_right _ hc
    have h3 : tot ≤ 1000 * 1407374883553280 := by rw [← htot]; exact Nat.le_trans h1 h2
    have h4 : ((1000 * 1407374883553280 : Nat) : Int) = 1407374883553280000 := by decide
    rw [← h4]
    exact Int.ofNat_le.2 h3
  rw [htot]
  have H1 : Hid (LeftAt w B A 0 its ∧ 0 + its.len = n ∧ Kids HoldsOK its ∧ Sz its ∧ its.len + kc its ≤ 1000 ∧ 0 + hold its = tot ∧ Only [] w w) := Lib.hid ⟨hi, by omega, hall, hs, hc, by omega, Only.refl _ _⟩
  have HB := Lib.hid hB
  have HT := Lib.hid htl
  clear hi hn hB hs hall htot hc H0 htl
  go_enter Try.func16, Try.ntmps16
  go_wp2_with fail
  go_loopw [3, 4] (fun x y W => ∃ (j : Nat) (its' : Its) (v : Nat), x = .int .i64 (v : Int) ∧ y = .int .i64 (j : Int) ∧ LeftAt w B A j its' ∧ j + its'.len = n ∧ Kids HoldsOK its' ∧ Sz its' ∧ its'.len + kc its' ≤ 1000 ∧ v + hold its' = tot ∧ Only [] w W) (fun _ y _ => n - (intOf y).toNat)
  case atStart => exact ⟨0, its, 0, by simp, by simp, H1.out⟩
  case round =>
    obtain ⟨j, its', v, rfl, rfl, hl, hj, hall, hs, hct, hv, ho⟩ := hrel
    clear H1
    cases its' with
    | nil =>
      have hjn : j = n := hj
      subst hjn
      have hvt : v = tot := by simpa [hold] using hv
      have HQ := Lib.hid ho
      clear hl hj hall hs hv ho hct
      go_wp2_with fail
      go_ret
      exact ⟨by rw [hvt]; rfl, HQ.out⟩
    | cons k i t d o kids rest =>
      have hlt : (j : Int) < (n : Int) := by simp only [Its.len] at hj; omega
      obtain ⟨blk, off, Ad, cd, Ao, co, Ak, ck, rfl, hbl, hcell, hrn, _, _, _, _, hck, hkd, hnx⟩ := hl.cells (only_keep ho HB.out)
      have hc3 := hcell 3 _ rfl
      have hc4 := hcell 4 _ rfl
      have hc5 := hcell 5 _ rfl
      have HC := Lib.hid (fun (W : World) (hk : Only [] wr W) => hall.1 Ak kids.len ck W B (hkd.only hk (by simp) (Nat.le_trans HB.out ho.size)) rfl (Nat.le_trans HB.out (Nat.le_trans ho.size hk.size)) hs.2.2.2.1 (by simp only [Its.len, kc] at hct; omega))
      have HN : Hid (∀ W, Only [] wr W → LeftAt w B (some ⟨blk, off, none⟩) (j + 1) rest ∧ j + 1 + rest.len = n ∧ Kids HoldsOK rest ∧ Sz rest ∧ rest.len + kc rest ≤ 1000 ∧ (v + d.length + 9 * o.length + hold kids) + hold rest = tot ∧ Only [] w W) := Lib.hid (fun W h3 => ⟨hnx, by simp only [Its.len] at hj; omega, hall.2, hs.2.2.2.2, by simp only [Its.len, kc] at hct; omega, by simp only [hold] at hv; omega, ho.trans h3⟩)
      have hj64 : wrap64 ((j : Int) + 1) = (j : Int) + 1 := by unfold wrap64; omega
      have hvs : v + (d.length + 9 * o.length + hold kids + hold rest) = tot := hv
      have HW := Lib.hid (hold_sums v d.length o.length (hold kids) (hold rest) tot hvs HT.out)
      have HJ := Lib.hid hlt
      have HLT : Hid (blk < wr.heap.size) := Lib.hid (by have := HB.out; have := ho.size; omega)
      clear hl hall hs hv ho hcell hrn hck hkd hnx hvs hct hn1
      go_wp2_with fail
      go_region_held3 (fun w' => w'.cell? ⟨blk, off + j * 6 + 3, none⟩ = some (.slice Ad d.length cd) ∧ w'.cell? ⟨blk, off + j * 6 + 4, none⟩ = some (.slice Ao o.length co) ∧ w'.cell? ⟨blk, off + j * 6 + 5, none⟩ = some (.slice Ak kids.len ck)) (first | exact ⟨hc3w, hc4w, hc5w⟩ | exact ⟨hc3, hc4, hc5⟩) ((go_at_call 16; refine (HC.out _ (by first | exact (Only.refl _ _).drew | exact Only.refl _ _)).mono ?_; rintro e w1 ⟨rfl, hk1⟩; have hc3w := (hk1.cell (p := ⟨blk, off + j * 6 + 3, none⟩) HLT.out (by simp)).trans hc3; have hc4w := (hk1.cell (p := ⟨blk, off + j * 6 + 4, none⟩) HLT.out (by simp)).trans hc4; have hc5w := (hk1.cell (p := ⟨blk, off + j * 6 + 5, none⟩) HLT.out (by simp)).trans hc5))
      all_goals
        have HS := Lib.hid (HN.out w1 ((Only.refl _ _).drew.trans hk1))
        clear hk1
        go_wp2_with fail
        go_roundw
        case rel => exact ⟨j + 1, rest, v + d.length + 9 * o.length + hold kids, congrArg _ HW.out, by rw [hj64]; rfl, HS.out⟩
        case measure =>
          rw [hj64]
          exact meas n j HJ.out

end Go.Proofs.Ytndnglpehghmeaa

/-! ### The reference's checks of steps: contracts, more. -/
namespace Go.Proofs.Ytndnglpehghmeaa
open Go.RowKit

/-- What a function that tells yes or no makes: it writes nothing that was there. -/
def Tells (w : World) (P : Bool → Prop) (e : Ending) (w' : World) : Prop := ∃ r : Bool, e = .returned (.bool r) ∧ P r ∧ Only [] w w'
/-- The arcs that the reference lets through. -/
def Sma (xs : List Int) : Prop := (∀ v ∈ xs, v ≤ 2147483647) ∧ xs.getD 1 0 ≤ 2147483567
theorem small_next (xs : List Int) (j : Nat) (hx : ¬ xs.getD j 0 > 2147483647) (h1 : j = 1 → xs.getD j 0 ≤ 2147483567) (h : ∀ i, i < j → xs.getD i 0 ≤ 2147483647 ∧ (i = 1 → xs.getD i 0 ≤ 2147483567)) : ∀ i, i < j + 1 → xs.getD i 0 ≤ 2147483647 ∧ (i = 1 → xs.getD i 0 ≤ 2147483567) := by
  intro i hi
  rcases Nat.lt_or_ge i j with h2 | h2
  · exact h i h2
  · have e : i = j := by omega
    subst e
    exact ⟨by omega, h1⟩
theorem small_end (xs : List Int) (j : Nat) (hj : xs.length ≤ j) (h : ∀ i, i < j → xs.getD i 0 ≤ 2147483647 ∧ (i = 1 → xs.getD i 0 ≤ 2147483567)) : Sma xs := by
  constructor
  · intro v hv
    obtain ⟨i, hi, rfl⟩ := List.mem_iff_getElem.1 hv
    have := (h i (by omega)).1
    rwa [List.getD_eq_getElem?_getD, List.getElem?_eq_getElem hi] at this
  · rcases Nat.lt_or_ge 1 j with h1 | h1
    · exact (h 1 h1).2 rfl
    · rw [List.getD_eq_getElem?_getD, List.getElem?_eq_none (by omega)]
      decide
set_option maxHeartbeats 1000000 in
theorem small_any (A : Option Addr) (n c : Nat) (xs : List Int) (w : World) (B : Nat) (h : RdI w B A xs) (hn : n = xs.length) (hB : B ≤ w.heap.size) (hl : xs.length ≤ 140737488355328) :
    Calls Try.prog 27 #[.slice A n c] w (Tells w fun r => r = true → Sma xs) := by
  subst hn
  have HI := Lib.hid h
  have HB := Lib.hid hB
  have HL := Lib.hid hl
  clear h hB hl
  go_enter Try.func27, Try.ntmps27
  go_wp2_with fail
  go_loopw [3] (fun y W => ∃ j : Nat, y = .int .i64 (j : Int) ∧ (∀ i, i < j → xs.getD i 0 ≤ 2147483647 ∧ (i = 1 → xs.getD i 0 ≤ 2147483567)) ∧ Only [] w W) (fun y _ => xs.length - (intOf y).toNat)
  case atStart => exact ⟨0, by simp, by omega, Only.refl _ _⟩
  case round =>
    obtain ⟨j, rfl, hv, ho⟩ := hrel
    have HK := Lib.hid ho
    by_cases hlt : j < xs.length
    · have hij : (j : Int) < (xs.length : Int) := by omega
      obtain ⟨b, off, rfl, hb, hcells⟩ := HI.out.2 (by omega)
      have hc : wr.cell? ⟨b, off + j, none⟩ = some (.int .i64 (xs.getD j 0)) := (only_keep ho HB.out _ hb).trans (hcells j hlt)
      have hj64 : wrap64 ((j : Int) + 1) = (j : Int) + 1 := wrap64_id _ (by omega) (by have := HL.out; omega)
      have HV := Lib.hid hv
      have HJ := Lib.hid hij
      have HN := Lib.hid (small_next xs j)
      clear hcells hv ho hlt
      generalize xs.getD j 0 = x at *
      by_cases hx : 2147483647 < x
      · go_wp2_with fail
        go_ret
        exact ⟨false, rfl, (by intro h; cases h), HK.out⟩
      · by_cases hj1 : j = 1
        · subst hj1
          rw [Int.natCast_one] at hij hj64
          by_cases hx2 : 2147483567 < x
          · go_wp2_with fail
            go_ret
            exact ⟨false, rfl, (by intro h; cases h), HK.out⟩
          · go_wp2_with fail
            go_roundw
            case rel => exact ⟨2, by first | rfl | (rw [hj64]; rfl) | simp, HN.out (by omega) (fun _ => by omega) HV.out, HK.out⟩
            case measure =>
              first
                | exact meas _ 1 HJ.out
                | (rw [hj64]; exact meas _ 1 HJ.out)
        · have hj1' : ¬ ((j : Int) = 1) := by omega
          go_wp2_with fail
          go_roundw
          case rel => exact ⟨j + 1, by rw [hj64]; rfl, HN.out (by omega) (fun h => absurd h hj1) HV.out, HK.out⟩
          case measure =>
            rw [hj64]
            exact meas _ j HJ.out
    · have hij : ¬ ((j : Int) < (xs.length : Int)) := by omega
      have HV := Lib.hid (small_end xs j (by omega) hv)
      clear hv ho hlt
      go_wp2_with fail
      go_ret
      exact ⟨true, rfl, (by intro _; exact HV.out), HK.out⟩

/-- No step takes bytes back. -/
def NoBack : Its → Prop
  | .nil => True
  | .cons k _ _ _ _ kids rest => k ≠ 22 ∧ NoBack kids ∧ NoBack rest

end Go.Proofs.Ytndnglpehghmeaa
