/- The reference's checks of steps: contracts. The reference's checks of steps: contracts, more. The reference's builder: what memory holds; writing, putting: contracts. The reference's builder: taking back, elements, prefixes: contracts. The reference's contents of unsigned integers; its elements without steps within: contracts. -/
import Derived.Test.YtlpmjahhdbcfiaaZ6
import Derived.Test.YtlpmjahhdbcfiaaZ2
/-! ### The reference's checks of steps: contracts. -/
namespace Go.Proofs.Ytlpmjahhdbcfiaa
open Go.RowKit

theorem meas (n j : Nat) (h : (j : Int) < (n : Int)) : n - ((j : Int) + 1).toNat < n - (j : Int).toNat := by omega
/-- No list within steps is longer than memory. -/
def Sz : Its → Prop
  | .nil => True
  | .cons _ _ _ d o kids rest => d.length ≤ 140737488355328 ∧ o.length ≤ 140737488355328 ∧ kids.len ≤ 140737488355328 ∧ Sz kids ∧ Sz rest
/-- How many steps there are within the steps of a list. -/
def kc : Its → Nat
  | .nil => 0
  | .cons _ _ _ _ _ kids rest => kids.len + kc kids + kc rest
/-- The cells of the first step that is left. -/
theorem LeftAt.cells {w W : World} {B : Nat} {A : Option Addr} {j : Nat} {k n t : Int} {d o : List Int} {kids rest : Its} (h : LeftAt w B A j (.cons k n t d o kids rest)) (hk : ∀ p : Addr, p.block < B → W.cell? p = w.cell? p) :
    ∃ blk off Ad cd Ao co Ak ck, A = some ⟨blk, off, none⟩ ∧ blk < B ∧ (∀ (q : Nat) (u : Value), (itemCells k n t d o Ad cd Ao co Ak kids.len ck)[q]? = some u → W.cell? ⟨blk, off + j * 6 + q, none⟩ = some u) ∧
      ((-9223372036854775808 ≤ k ∧ k ≤ 9223372036854775807) ∧ (-9223372036854775808 ≤ n ∧ n ≤ 9223372036854775807) ∧ (-9223372036854775808 ≤ t ∧ t ≤ 9223372036854775807)) ∧
      Rd W B Ad d ∧ (d.length ≤ cd ∧ cd ≤ maxLen) ∧ RdI W B Ao o ∧ (o.length ≤ co ∧ co ≤ maxLen) ∧ (kids.len ≤ ck ∧ ck ≤ maxLen) ∧ ItsRd W B Ak kids ∧ LeftAt w B A (j + 1) rest := by
  obtain ⟨blk, off, rfl, hbl, Ad, cd, Ao, co, Ak, ck, hcs, r2, r3, r4, r5, r6, r7, r8, r9, r10, r11, r12, r13, r14⟩ := h (by simp [Its.len])
  refine ⟨blk, off, Ad, cd, Ao, co, Ak, ck, rfl, hbl, ?_, ⟨r2, r3, r4⟩, r5.keep hk, ⟨r6, r7⟩, r8.keep hk, ⟨r9, r10⟩, ⟨r11, r12⟩, ?_, LeftAt.next hbl r14⟩
  · intro q u hq
    rw [Nat.mul_comm j 6]
    exact (hk _ hbl).trans (hcs q u hq)
  · exact ItsRd.keep (w := w) (fun hp => by obtain ⟨b', off', e, hb', h⟩ := r13 hp; exact ⟨b', off', e, hb', h⟩) hk
theorem only_keep {w W : World} {B : Nat} (ho : Only [] w W) (hB : B ≤ w.heap.size) : ∀ p : Addr, p.block < B → W.cell? p = w.cell? p := fun _ hp => (ho.below (by simp) hB).cell hp

def ItemsOK (its : Its) : Prop := ∀ (m : Int) (A : Option Addr) (n c : Nat) (w : World) (B : Nat), 0 ≤ m → m ≤ 1000 → ItsRd w B A its → n = its.len → n ≤ 140737488355328 → B ≤ w.heap.size → Sz its →
  Calls Try.prog 17 #[.slice A n c, .int .i64 m] w fun e w' => ∃ v : Int, e = .returned (.int .i64 v) ∧ 0 ≤ v ∧ v ≤ m + 140737488355328 ∧ (v ≤ m → ((its.len + kc its : Nat) : Int) ≤ v) ∧ Only [] w w'
set_option maxHeartbeats 1000000 in
theorem items_ok (its : Its) (hall : Kids ItemsOK its) : ItemsOK its := by
  intro m A n c w B hm0 hm1 hi hn hn1 hB hs
  have H0 : Hid (LeftAt w B A 0 its ∧ 0 + its.len = n ∧ Kids ItemsOK its ∧ Sz its ∧ ((n : Int) ≤ m → ((n + kc its : Nat) : Int) ≤ (n : Int) + kc its) ∧ Only [] w w) := Lib.hid ⟨hi, by omega, hall, hs, fun _ => by omega, Only.refl _ _⟩
  obtain ⟨tot, htot⟩ : ∃ tot : Nat, n + kc its = tot := ⟨_, rfl⟩
  rw [← hn, htot]
  rw [htot] at H0
  have HB := Lib.hid hB
  clear hi hn hB hs hall htot
  go_enter Try.func17, Try.ntmps17
  go_wp2_with fail
  go_loopw [5, 6] (fun x y W => ∃ (j : Nat) (its' : Its) (v : Int), x = .int .i64 v ∧ y = .int .i64 (j : Int) ∧ 0 ≤ v ∧ v ≤ m + 140737488355328 ∧ LeftAt w B A j its' ∧ j + its'.len = n ∧ Kids ItemsOK its' ∧ Sz its' ∧ (v ≤ m → (tot : Int) ≤ v + kc its') ∧ Only [] w W) (fun _ y _ => n - (intOf y).toNat)
  case atStart => exact ⟨0, its, n, rfl, by simp, by omega, by omega, H0.out⟩
  case round =>
    obtain ⟨j, its', v, rfl, rfl, v0, v1, hl, hj, hall, hs, hv, ho⟩ := hrel
    clear H0
    cases its' with
    | nil =>
      have hjn : j = n := hj
      subst hjn
      have HQ := Lib.hid (And.intro hv ho)
      clear hl hj hall hs hv ho
      go_wp2_with fail
      go_ret
      exact ⟨v, rfl, v0, v1, fun h => by have := HQ.out.1 h; simpa [kc] using this, HQ.out.2⟩
    | cons k i t d o kids rest =>
      have hlt : (j : Int) < (n : Int) := by simp only [Its.len] at hj; omega
      by_cases hvm : v ≤ m
      · obtain ⟨blk, off, Ad, cd, Ao, co, Ak, ck, rfl, hbl, hcell, hrn, _, _, _, _, hck, hkd, hnx⟩ := hl.cells (only_keep ho HB.out)
        have hc5 := hcell 5 _ rfl
        have HC := Lib.hid (fun (W : World) (hk : Only [] wr W) => hall.1 (m - v) Ak kids.len ck W B (by omega) (by omega) (hkd.only hk (by simp) (Nat.le_trans HB.out ho.size)) rfl hs.2.2.1 (Nat.le_trans HB.out (Nat.le_trans ho.size hk.size)) hs.2.2.2.1)
        have HK := Lib.hid ho
        have HN : Hid (∀ (u : Int) W, 0 ≤ u → u ≤ m - v + 140737488355328 → (u ≤ m - v → ((kids.len + kc kids : Nat) : Int) ≤ u) → Only [] wr W → 0 ≤ v + u ∧ v + u ≤ m + 140737488355328 ∧ LeftAt w B (some ⟨blk, off, none⟩) (j + 1) rest ∧ j + 1 + rest.len = n ∧ Kids ItemsOK rest ∧ Sz rest ∧ (v + u ≤ m → (tot : Int) ≤ v + u + kc rest) ∧ Only [] w W) := Lib.hid (fun u W h0 h1 h2 h3 => ⟨by omega, by omega, hnx, by simp only [Its.len] at hj; omega, hall.2, hs.2.2.2.2, fun h => by have := hv hvm; have := h2 (by omega); simp only [kc] at *; omega, ho.trans h3⟩)
        have hmv : wrap64 (m - v) = m - v := by unfold wrap64; omega
        have hj64 : wrap64 ((j : Int) + 1) = (j : Int) + 1 := by unfold wrap64; omega
        clear hl hall hs hv ho hcell hrn hck hkd hnx
        go_wp2_with fail
        refine (HC.out _ (Only.refl _ _)).mono ?_
        rintro e w1 ⟨u, rfl, u0, u1, u2, hk1⟩
        have HS := Lib.hid (HN.out u w1 u0 u1 u2 hk1)
        have hvu : wrap64 (v + u) = v + u := by unfold wrap64; omega
        have HJ := Lib.hid (And.intro hlt hn1)
        clear u0 u1 u2 hk1 HC HN hc5 hmv v0 v1 hm0 hm1 hvm hlt hbl hn1 HK
        go_wp2_with fail
        go_roundw
        case rel =>
          refine ⟨j + 1, rest, v + u, ?_, ?_, HS.out⟩
          · rw [hvu]
          · rw [hj64]; rfl
        case measure =>
          rw [hj64]
          exact meas n j HJ.out.1
      · clear hl hall hs hv hj
        have HQ := Lib.hid ho
        clear ho
        go_wp2_with fail
        go_ret
        exact ⟨v, rfl, v0, v1, fun h => absurd h (by omega), HQ.out⟩

theorem iw_id (x : Int) (h0 : 0 ≤ x) (h1 : x ≤ 2000000000000000000) : IntKind.i64.wrap x = x := by simp [IntKind.wrap, IntKind.bits, IntKind.signed]; omega
theorem wrap64_id (x : Int) (h0 : 0 ≤ x) (h1 : x ≤ 2000000000000000000) : wrap64 x = x := by unfold wrap64; omega
theorem hold_sums (v a b c r tot : Nat) (h : v + (a + 9 * b + c + r) = tot) (ht : (tot : Int) ≤ 1407374883553280000) :
    IntKind.i64.wrap (IntKind.i64.wrap (IntKind.i64.wrap ((v : Int) + (a : Int)) + IntKind.i64.wrap (9 * (b : Int))) + (c : Int)) = ((v + a + 9 * b + c : Nat) : Int) := by
  have hi : (v : Int) + ((a : Int) + 9 * (b : Int) + (c : Int) + (r : Int)) = (tot : Int) := by rw [← h]; simp
  rw [show ((v + a + 9 * b + c : Nat) : Int) = (v : Int) + (a : Int) + 9 * (b : Int) + (c : Int) by simp]
  have h1 := Int.natCast_nonneg v
  have h2 := Int.natCast_nonneg a
  have h3 := Int.natCast_nonneg b
  have h4 := Int.natCast_nonneg c
  have h5 := Int.natCast_nonneg r
  generalize (v : Int) = V at *
  generalize (a : Int) = A at *
  generalize (b : Int) = B at *
  generalize (c : Int) = C at *
  generalize (r : Int) = R at *
  generalize (tot : Int) = T at *
  clear h
  rw [iw_id (V + A) (by omega) (by omega), iw_id (9 * B) (by omega) (by omega), iw_id (V + A + 9 * B) (by omega) (by omega), iw_id _ (by omega) (by omega)]
/-- How many bytes and arcs steps hold. -/
def hold : Its → Nat
  | .nil => 0
  | .cons _ _ _ d o kids rest => d.length + 9 * o.length + hold kids + hold rest
theorem hold_le (its : Its) (h : Sz its) : hold its ≤ (its.len + kc its) * 1407374883553280 := by
  induction its with
  | nil => simp [hold]
  | cons k n t d o kids rest ihk ihr =>
    obtain ⟨h1, h2, h3, h4, h5⟩ := h
    have := ihk h4
    have := ihr h5
    simp only [hold, Its.len, kc]
    omega
def HoldsOK (its : Its) : Prop := ∀ (A : Option Addr) (n c : Nat) (w : World) (B : Nat), ItsRd w B A its → n = its.len → B ≤ w.heap.size → Sz its → its.len + kc its ≤ 1000 →
  Calls Try.prog 18 #[.slice A n c] w fun e w' => e = .returned (.int .i64 ((hold its : Nat) : Int)) ∧ Only [] w w'
set_option maxHeartbeats 1000000 in
theorem holds_ok (its : Its) (hall : Kids HoldsOK its) : HoldsOK its := by
  intro A n c w B hi hn hB hs hc
  have H0 : Hid (LeftAt w B A 0 its ∧ 0 + its.len = n ∧ Kids HoldsOK its ∧ Sz its ∧ its.len + kc its ≤ 1000 ∧ 0 + hold its = hold its ∧ Only [] w w) := Lib.hid ⟨hi, by omega, hall, hs, hc, by omega, Only.refl _ _⟩
  have hn1 : n ≤ 1000 := by omega
  obtain ⟨tot, htot⟩ : ∃ tot : Nat, hold its = tot := ⟨_, rfl⟩
  have htl : (tot : Int) ≤ 1407374883553280000 := by
    have h1 := hold_le its hs
    have h2 : (its.len + kc its) * 1407374883553280 ≤ 1000 * 1407374883553280 := Nat.mul_le_mul_right _ hc
    have h3 : tot ≤ 1000 * 1407374883553280 := by rw [← htot]; exact Nat.le_trans h1 h2
    have h4 : ((1000 * 1407374883553280 : Nat) : Int) = 1407374883553280000 := by decide
    rw [← h4]
    exact Int.ofNat_le.2 h3
  rw [htot]
  have H1 : Hid (LeftAt w B A 0 its ∧ 0 + its.len = n ∧ Kids HoldsOK its ∧ Sz its ∧ its.len + kc its ≤ 1000 ∧ 0 + hold its = tot ∧ Only [] w w) := Lib.hid ⟨hi, by omega, hall, hs, hc, by omega, Only.refl _ _⟩
  have HB := Lib.hid hB
  have HT := Lib.hid htl
  clear hi hn hB hs hall htot hc H0 htl
  go_enter Try.func18, Try.ntmps18
  go_wp2_with fail
  go_loopw [3, 4] (fun x y W => ∃ (j : Nat) (its' : Its) (v : Nat), x = .int .i64 (v : Int) ∧ y = .int .i64 (j : Int) ∧ LeftAt w B A j its' ∧ j + its'.len = n ∧ Kids HoldsOK its' ∧ Sz its' ∧ its'.len + kc its' ≤ 1000 ∧ v + hold its' = tot ∧ Only [] w W) (fun _ y _ => n - (intOf y).toNat)
  case atStart => exact ⟨0, its, 0, by simp, by simp, H1.out⟩
  case round =>
    obtain ⟨j, its', v, rfl, rfl, hl, hj, hall, hs, hct, hv, ho⟩ := hrel
    clear H1
    cases its' with
    | nil =>
      have hjn : j = n := hj
      subst hjn
      have hvt : v = tot := by simpa [hold] using hv
      have HQ := Lib.hid ho
      clear hl hj hall hs hv ho hct
      go_wp2_with fail
      go_ret
      exact ⟨by rw [hvt]; rfl, HQ.out⟩
    | cons k i t d o kids rest =>
      have hlt : (j : Int) < (n : Int) := by simp only [Its.len] at hj; omega
      obtain ⟨blk, off, Ad, cd, Ao, co, Ak, ck, rfl, hbl, hcell, hrn, _, _, _, _, hck, hkd, hnx⟩ := hl.cells (only_keep ho HB.out)
      have hc3 := hcell 3 _ rfl
      have hc4 := hcell 4 _ rfl
      have hc5 := hcell 5 _ rfl
      have HC := Lib.hid (fun (W : World) (hk : Only [] wr W) => hall.1 Ak kids.len ck W B (hkd.only hk (by simp) (Nat.le_trans HB.out ho.size)) rfl (Nat.le_trans HB.out (Nat.le_trans ho.size hk.size)) hs.2.2.2.1 (by simp only [Its.len, kc] at hct; omega))
      have HN : Hid (∀ W, Only [] wr W → LeftAt w B (some ⟨blk, off, none⟩) (j + 1) rest ∧ j + 1 + rest.len = n ∧ Kids HoldsOK rest ∧ Sz rest ∧ rest.len + kc rest ≤ 1000 ∧ (v + d.length + 9 * o.length + hold kids) + hold rest = tot ∧ Only [] w W) := Lib.hid (fun W h3 => ⟨hnx, by simp only [Its.len] at hj; omega, hall.2, hs.2.2.2.2, by simp only [Its.len, kc] at hct; omega, by simp only [hold] at hv; omega, ho.trans h3⟩)
      have hj64 : wrap64 ((j : Int) + 1) = (j : Int) + 1 := by unfold wrap64; omega
      have hvs : v + (d.length + 9 * o.length + hold kids + hold rest) = tot := hv
      have HW := Lib.hid (hold_sums v d.length o.length (hold kids) (hold rest) tot hvs HT.out)
      have HJ := Lib.hid hlt
      have HLT : Hid (blk < wr.heap.size) := Lib.hid (by have := HB.out; have := ho.size; omega)
      clear hl hall hs hv ho hcell hrn hck hkd hnx hvs hct hn1
      go_wp2_with fail
      go_region_held3 (fun w' => w'.cell? ⟨blk, off + j * 6 + 3, none⟩ = some (.slice Ad d.length cd) ∧ w'.cell? ⟨blk, off + j * 6 + 4, none⟩ = some (.slice Ao o.length co) ∧ w'.cell? ⟨blk, off + j * 6 + 5, none⟩ = some (.slice Ak kids.len ck)) (first | exact ⟨hc3w, hc4w, hc5w⟩ | exact ⟨hc3, hc4, hc5⟩) ((go_at_call 18; refine (HC.out _ (by first | exact (Only.refl _ _).drew | exact Only.refl _ _)).mono ?_; rintro e w1 ⟨rfl, hk1⟩; have hc3w := (hk1.cell (p := ⟨blk, off + j * 6 + 3, none⟩) HLT.out (by simp)).trans hc3; have hc4w := (hk1.cell (p := ⟨blk, off + j * 6 + 4, none⟩) HLT.out (by simp)).trans hc4; have hc5w := (hk1.cell (p := ⟨blk, off + j * 6 + 5, none⟩) HLT.out (by simp)).trans hc5))
      all_goals
        have HS := Lib.hid (HN.out w1 ((Only.refl _ _).drew.trans hk1))
        clear hk1
        go_wp2_with fail
        go_roundw
        case rel => exact ⟨j + 1, rest, v + d.length + 9 * o.length + hold kids, congrArg _ HW.out, by rw [hj64]; rfl, HS.out⟩
        case measure =>
          rw [hj64]
          exact meas n j HJ.out

end Go.Proofs.Ytlpmjahhdbcfiaa

/-! ### The reference's checks of steps: contracts, more. -/
namespace Go.Proofs.Ytlpmjahhdbcfiaa
open Go.RowKit

/-- What a function that tells yes or no makes: it writes nothing that was there. -/
def Tells (w : World) (P : Bool → Prop) (e : Ending) (w' : World) : Prop := ∃ r : Bool, e = .returned (.bool r) ∧ P r ∧ Only [] w w'
/-- The arcs that the reference lets through. -/
def Sma (xs : List Int) : Prop := (∀ v ∈ xs, v ≤ 2147483647) ∧ xs.getD 1 0 ≤ 2147483567
theorem small_next (xs : List Int) (j : Nat) (hx : ¬ xs.getD j 0 > 2147483647) (h1 : j = 1 → xs.getD j 0 ≤ 2147483567) (h : ∀ i, i < j → xs.getD i 0 ≤ 2147483647 ∧ (i = 1 → xs.getD i 0 ≤ 2147483567)) : ∀ i, i < j + 1 → xs.getD i 0 ≤ 2147483647 ∧ (i = 1 → xs.getD i 0 ≤ 2147483567) := by
  intro i hi
  rcases Nat.lt_or_ge i j with h2 | h2
  · exact h i h2
  · have e : i = j := by omega
    subst e
    exact ⟨by omega, h1⟩
theorem small_end (xs : List Int) (j : Nat) (hj : xs.length ≤ j) (h : ∀ i, i < j → xs.getD i 0 ≤ 2147483647 ∧ (i = 1 → xs.getD i 0 ≤ 2147483567)) : Sma xs := by
  constructor
  · intro v hv
    obtain ⟨i, hi, rfl⟩ := List.mem_iff_getElem.1 hv
    have := (h i (by omega)).1
    rwa [List.getD_eq_getElem?_getD, List.getElem?_eq_getElem hi] at this
  · rcases Nat.lt_or_ge 1 j with h1 | h1
    · exact (h 1 h1).2 rfl
    · rw [List.getD_eq_getElem?_getD, List.getElem?_eq_none (by omega)]
      decide
set_option maxHeartbeats 1000000 in
theorem small_any (A : Option Addr) (n c : Nat) (xs : List Int) (w : World) (B : Nat) (h : RdI w B A xs) (hn : n = xs.length) (hB : B ≤ w.heap.size) (hl : xs.length ≤ 140737488355328) :
    Calls Try.prog 27 #[.slice A n c] w (Tells w fun r => r = true → Sma xs) := by
  subst hn
  have HI := Lib.hid h
  have HB := Lib.hid hB
  have HL := Lib.hid hl
  clear h hB hl
  go_enter Try.func27, Try.ntmps27
  go_wp2_with fail
  go_loopw [3] (fun y W => ∃ j : Nat, y = .int .i64 (j : Int) ∧ (∀ i, i < j → xs.getD i 0 ≤ 2147483647 ∧ (i = 1 → xs.getD i 0 ≤ 2147483567)) ∧ Only [] w W) (fun y _ => xs.length - (intOf y).toNat)
  case atStart => exact ⟨0, by simp, by omega, Only.refl _ _⟩
  case round =>
    obtain ⟨j, rfl, hv, ho⟩ := hrel
    have HK := Lib.hid ho
    by_cases hlt : j < xs.length
    · have hij : (j : Int) < (xs.length : Int) := by omega
      obtain ⟨b, off, rfl, hb, hcells⟩ := HI.out.2 (by omega)
      have hc : wr.cell? ⟨b, off + j, none⟩ = some (.int .i64 (xs.getD j 0)) := (only_keep ho HB.out _ hb).trans (hcells j hlt)
      have hj64 : wrap64 ((j : Int) + 1) = (j : Int) + 1 := wrap64_id _ (by omega) (by have := HL.out; omega)
      have HV := Lib.hid hv
      have HJ := Lib.hid hij
      have HN := Lib.hid (small_next xs j)
      clear hcells hv ho hlt
      generalize xs.getD j 0 = x at *
      by_cases hx : 2147483647 < x
      · go_wp2_with fail
        go_ret
        exact ⟨false, rfl, (by intro h; cases h), HK.out⟩
      · by_cases hj1 : j = 1
        · subst hj1
          rw [Int.natCast_one] at hij hj64
          by_cases hx2 : 2147483567 < x
          · go_wp2_with fail
            go_ret
            exact ⟨false, rfl, (by intro h; cases h), HK.out⟩
          · go_wp2_with fail
            go_roundw
            case rel => exact ⟨2, by first | rfl | (rw [hj64]; rfl) | simp, HN.out (by omega) (fun _ => by omega) HV.out, HK.out⟩
            case measure =>
              first
                | exact meas _ 1 HJ.out
                | (rw [hj64]; exact meas _ 1 HJ.out)
        · have hj1' : ¬ ((j : Int) = 1) := by omega
          go_wp2_with fail
          go_roundw
          case rel => exact ⟨j + 1, by rw [hj64]; rfl, HN.out (by omega) (fun h => absurd h hj1) HV.out, HK.out⟩
          case measure =>
            rw [hj64]
            exact meas _ j HJ.out
    · have hij : ¬ ((j : Int) < (xs.length : Int)) := by omega
      have HV := Lib.hid (small_end xs j (by omega) hv)
      clear hv ho hlt
      go_wp2_with fail
      go_ret
      exact ⟨true, rfl, (by intro _; exact HV.out), HK.out⟩

/-- No step takes bytes back. -/
def NoBack : Its → Prop
  | .nil => True
  | .cons k _ _ _ _ kids rest => k ≠ 22 ∧ NoBack kids ∧ NoBack rest
def TbOK (its : Its) : Prop := ∀ (A : Option Addr) (n c : Nat) (w : World) (B : Nat), ItsRd w B A its → n = its.len → n ≤ 140737488355328 → B ≤ w.heap.size → Sz its →
  Calls Try.prog 15 #[.slice A n c] w (Tells w fun r => r = false → NoBack its)
set_option maxHeartbeats 1000000 in
theorem tb_ok (its : Its) (hall : Kids TbOK its) : TbOK its := by
  intro A n c w B hi hn hn1 hB hs
  have H0 : Hid (LeftAt w B A 0 its ∧ 0 + its.len = n ∧ Kids TbOK its ∧ Sz its ∧ (NoBack its → NoBack its) ∧ Only [] w w) := Lib.hid ⟨hi, by omega, hall, hs, id, Only.refl _ _⟩
  have HB := Lib.hid hB
  have HL := Lib.hid hn1
  obtain ⟨P, hP⟩ : ∃ P, NoBack its = P := ⟨_, rfl⟩
  have H1 : Hid (LeftAt w B A 0 its ∧ 0 + its.len = n ∧ Kids TbOK its ∧ Sz its ∧ (NoBack its → P) ∧ Only [] w w) := Lib.hid ⟨hi, by omega, hall, hs, fun h => by rw [← hP]; exact h, Only.refl _ _⟩
  rw [hP]
  clear hi hn hB hs hall hn1 H0 hP
  go_enter Try.func15, Try.ntmps15
  go_wp2_with fail
  go_loopw [3] (fun y W => ∃ (j : Nat) (its' : Its), y = .int .i64 (j : Int) ∧ LeftAt w B A j its' ∧ j + its'.len = n ∧ Kids TbOK its' ∧ Sz its' ∧ (NoBack its' → P) ∧ Only [] w W) (fun y _ => n - (intOf y).toNat)
  case atStart => exact ⟨0, its, by simp, H1.out⟩
  case round =>
    obtain ⟨j, its', rfl, hl, hj, hall, hs, hv, ho⟩ := hrel
    clear H1
    have HK := Lib.hid ho
    cases its' with
    | nil =>
      have hjn : j = n := hj
      subst hjn
      have HQ := Lib.hid (hv trivial)
      clear hl hj hall hs hv ho
      go_wp2_with fail
      go_ret
      exact ⟨false, rfl, (by intro _; exact HQ.out), HK.out⟩
    | cons k i t d o kids rest =>
      have hlt : (j : Int) < (n : Int) := by simp only [Its.len] at hj; omega
      obtain ⟨blk, off, Ad, cd, Ao, co, Ak, ck, rfl, hbl, hcell, hrn, _, _, _, _, hck, hkd, hnx⟩ := hl.cells (only_keep ho HB.out)
      have hc0 := hcell 0 _ rfl
      have hc5 := hcell 5 _ rfl
      rw [Nat.add_zero] at hc0
      have HC := Lib.hid (fun (W : World) (hk : Only [] wr W) => hall.1 Ak kids.len ck W B (hkd.only hk (by simp) (Nat.le_trans HB.out ho.size)) rfl hs.2.2.1 (Nat.le_trans HB.out (Nat.le_trans ho.size hk.size)) hs.2.2.2.1)
      have HN : Hid (k ≠ 22 → NoBack kids → ∀ W, Only [] wr W → LeftAt w B (some ⟨blk, off, none⟩) (j + 1) rest ∧ j + 1 + rest.len = n ∧ Kids TbOK rest ∧ Sz rest ∧ (NoBack rest → P) ∧ Only [] w W) := Lib.hid (fun h1 h2 W h3 => ⟨hnx, by simp only [Its.len] at hj; omega, hall.2, hs.2.2.2.2, fun h => hv ⟨h1, h2, h⟩, ho.trans h3⟩)
      have hj64 : wrap64 ((j : Int) + 1) = (j : Int) + 1 := wrap64_id _ (by omega) (by have := HL.out; omega)
      have HJ := Lib.hid hlt
      clear hl hall hs hv ho hcell hrn hck hkd hnx hj
      by_cases hk : k = 22
      · subst hk
        go_wp2_with fail
        go_ret
        exact ⟨true, rfl, (by intro h; cases h), HK.out⟩
      · go_wp2_with fail
        refine (HC.out _ (by first | exact (Only.refl _ _).drew | exact Only.refl _ _)).mono ?_
        rintro e w1 ⟨r, rfl, hr, hk1⟩
        have HR := Lib.hid hr
        have HK1 := Lib.hid hk1
        clear hr hk1 HC
        cases r with
        | true =>
          go_wp2_with fail
          go_ret
          exact ⟨true, rfl, (by intro h; cases h), HK.out.trans HK1.out⟩
        | false =>
          have HS := Lib.hid (HN.out hk (HR.out rfl) w1 HK1.out)
          clear HN
          go_wp2_with fail
          go_roundw
          case rel => exact ⟨j + 1, rest, by rw [hj64]; rfl, HS.out⟩
          case measure =>
            rw [hj64]
            exact meas _ j HJ.out

end Go.Proofs.Ytlpmjahhdbcfiaa

/-! ### The reference's builder: what memory holds; writing, putting: contracts. -/
namespace Go.Proofs.Ytlpmjahhdbcfiaa
open Go.RowKit

def SbC (r : Value) (s : St) : Array Value := #[r, .int .i64 (s.dir : Int), .bool s.fl, .bool s.wr]
def SbAt (w : World) (b : Nat) (r : Value) (s : St) : Prop := w.heap[b]? = some (.cells (SbC r s) 45 (0, 0))
section
variable {w w' : World} {b : Nat} {r : Value} {s : St}
theorem SbAt.lt (h : SbAt w b r s) : b < w.heap.size := lt_of_block h
theorem SbAt.c0 (h : SbAt w b r s) : w.cell? ⟨b, 0, none⟩ = some r := cell_of_row w b 0 _ _ _ h
theorem SbAt.c1 (h : SbAt w b r s) : w.cell? ⟨b, 1, none⟩ = some (.int .i64 (s.dir : Int)) := cell_of_row w b 1 _ _ _ h
theorem SbAt.c2 (h : SbAt w b r s) : w.cell? ⟨b, 2, none⟩ = some (.bool s.fl) := cell_of_row w b 2 _ _ _ h
theorem SbAt.c3 (h : SbAt w b r s) : w.cell? ⟨b, 3, none⟩ = some (.bool s.wr) := cell_of_row w b 3 _ _ _ h
theorem SbAt.free (h : SbAt w b r s) (i : Nat) : w.frozen? ⟨b, i, none⟩ = false := frozen_of_row w b i _ _ h
theorem SbAt.only {l : List Nat} (h : SbAt w b r s) (ho : Only l w w') (hb : b ∉ l) : SbAt w' b r s := (ho.block b h.lt hb).trans h
theorem SbAt.alloc (h : SbAt w b r s) (o : Obj) : SbAt (w.alloc o) b r s := (Below.heap_alloc w o b h.lt).trans h
theorem SbAt.set0 (h : SbAt w b r s) (u : Value) : SbAt (w.setCell ⟨b, 0, none⟩ u) b u s := heap_setCell_same w b 0 _ _ u h
theorem SbAt.set1 (h : SbAt w b r s) (d : Nat) : SbAt (w.setCell ⟨b, 1, none⟩ (.int .i64 (d : Int))) b r { s with dir := d } := heap_setCell_same w b 1 _ _ _ h
theorem SbAt.set2 (h : SbAt w b r s) (x : Bool) : SbAt (w.setCell ⟨b, 2, none⟩ (.bool x)) b r { s with fl := x } := heap_setCell_same w b 2 _ _ _ h
theorem SbAt.set3 (h : SbAt w b r s) (x : Bool) : SbAt (w.setCell ⟨b, 3, none⟩ (.bool x)) b r { s with wr := x } := heap_setCell_same w b 3 _ _ _ h
theorem SbAt.outs (h : SbAt w b r s) (o : List Int) : SbAt w b r { s with out := o } := h
end
/-- A builder of the reference, as steps find it. -/
structure SGood (w : World) (base b : Nat) (r : Value) (s : St) (B : Nat) : Prop where
  sb : SbAt w b r s
  row : Row w base r s.out
  base : base ≤ w.heap.size
  dir : s.dir ≤ s.out.length
  low : ∀ k ∈ b :: own r, B ≤ k
  hB : B ≤ w.heap.size
/-- What a call leaves of it. -/
def SpecP (w : World) (base b : Nat) (r0 : Value) (s : St) (e : Ending) (w' : World) : Prop :=
  e = .returned (.tuple #[]) ∧ Only (b :: own r0) w w' ∧ ∃ r, SbAt w' b r s ∧ Row w' base r s.out ∧ OwnLe w r0 r ∧ s.dir ≤ s.out.length
theorem SpecP.next {w w' : World} {base b : Nat} {r0 : Value} {s0 s : St} {B : Nat} {e : Ending} (h : SpecP w base b r0 s e w') (g : SGood w base b r0 s0 B) :
    e = .returned (.tuple #[]) ∧ ∃ r, SGood w' base b r s B ∧ OwnLe w r0 r ∧ Only (b :: own r0) w w' := by
  obtain ⟨he, ho, r, h1, h2, h3, h4⟩ := h
  refine ⟨he, r, ⟨h1, h2, Nat.le_trans g.base ho.size, h4, ?_, Nat.le_trans g.hB ho.size⟩, h3, ho⟩
  intro k hk
  rcases List.mem_cons.1 hk with rfl | hk
  · exact g.low _ (by simp)
  · rcases h3 k hk with h | h
    · exact g.low _ (by simp [h])
    · have := g.hB; omega
theorem SpecP.trans {w w1 w' : World} {base b : Nat} {r0 r1 : Value} {s : St} {e : Ending} (h : SpecP w1 base b r1 s e w') (ho : Only (b :: own r0) w w1) (hr : OwnLe w r0 r1) : SpecP w base b r0 s e w' := by
  obtain ⟨he, h1, r, h2, h3, h4, h5⟩ := h
  refine ⟨he, ho.then h1 ?_, r, h2, h3, ?_, h5⟩
  · intro k hk hlt
    rcases List.mem_cons.1 hk with rfl | hk
    · simp
    · rcases hr k hk with h | h
      · simp [h]
      · omega
  · intro k hk
    rcases h4 k hk with h | h
    · exact hr k h
    · right; have := ho.size; omega
theorem SGood.grow {w w' : World} {base b : Nat} {r : Value} {s : St} {B : Nat} (g : SGood w base b r s B) (ho : Only [] w w') : SGood w' base b r s B :=
  ⟨g.sb.only ho (by simp), g.row.only ho (by simp), Nat.le_trans g.base ho.size, g.dir, g.low, Nat.le_trans g.hB ho.size⟩

set_option maxRecDepth 100000 in
theorem swrite_any (b : Nat) (r : Value) (s : St) (A : Option Addr) (n c : Nat) (xs : List Int) (w : World) (base B Bx : Nat) (g : SGood w base b r s B) (hx : Rd w Bx A xs) (hn : n = xs.length) (hl : s.out.length + xs.length ≤ 100000000) :
    Calls Try.prog 34 #[.pointer (some ⟨b, 0, none⟩), .slice A n c] w (SpecP w base b r { s with out := s.out ++ xs, dir := s.dir + xs.length }) := by
  subst hn
  have hc0 := g.sb.c0
  have hfr := g.sb.free 0
  have HG := Lib.hid g
  have HX := Lib.hid hx
  have HL := Lib.hid hl
  clear g hx hl
  go_enter Try.func34, Try.ntmps34
  go_wp2_with (at_builtin; refine wpList_row rfl (.tmp 8) (.tmp 9) rfl rfl base Bx r s.out xs A xs.length c rfl rfl HG.out.row HX.out rfl HG.out.base ?c1 ?_)
  case c1 => have := HL.out; omega
  intro v' w1 hr1 hk1 hat
  obtain ⟨Av, cv, hv', _, _, _⟩ := hr1.form
  obtain ⟨L, hL⟩ : ∃ L, (s.out ++ xs).length = L := ⟨_, rfl⟩
  rw [hL] at hv'
  subst hv'
  clear hL
  have hne : b ∉ own r := HG.out.row.ne HG.out.sb (by decide)
  have hb1 := HG.out.sb.only hk1 hne
  have hf1 := hb1.free 0
  have hc1 := hb1.c1
  have hc0' := hb1.c0
  have hf2 := hb1.free 1
  have hd64 : wrap64 ((s.dir : Int) + (xs.length : Int)) = (s.dir : Int) + (xs.length : Int) := wrap64_id _ (by omega) (by have := HL.out; have := HG.out.dir; omega)
  have HQ : Hid (SpecP w base b r { s with out := s.out ++ xs, dir := s.dir + xs.length } (.returned (.tuple #[])) ((w1.setCell ⟨b, 0, none⟩ (.slice Av L cv)).setCell ⟨b, 1, none⟩ (.int .i64 ((s.dir : Int) + (xs.length : Int))))) := Lib.hid (by
    rw [show (s.dir : Int) + (xs.length : Int) = ((s.dir + xs.length : Nat) : Int) by simp]
    have ho : Only (b :: own r) w ((w1.setCell ⟨b, 0, none⟩ (.slice Av L cv)).setCell ⟨b, 1, none⟩ (.int .i64 ((s.dir + xs.length : Nat) : Int))) := ((hk1.more (fun k hk _ => by simp [hk])).setCell (.inl (by simp)) _).setCell (.inl (by simp)) _
    have hne1 : b ∉ own (.slice Av L cv) := hr1.ne hb1 (by decide)
    refine ⟨rfl, ho, .slice Av L cv, ((hb1.set0 (.slice Av L cv)).set1 _).outs _, hr1.only (l := [b]) (((Only.refl _ _).setCell (.inl (by simp)) _).setCell (.inl (by simp)) _) (by intro k hk; simp only [List.mem_singleton] at hk; subst hk; exact hne1), OwnLe.of hat, ?_⟩
    have := HG.out.dir
    simp only [List.length_append]
    omega)
  clear hr1 hk1 hat hne hb1 HX HG
  go_wp2_with fail
  go_end0
  exact HQ.out

set_option maxRecDepth 100000 in
theorem sput_any (b : Nat) (r : Value) (s : St) (A : Option Addr) (n c : Nat) (xs : List Int) (w : World) (base B Bx : Nat) (g : SGood w base b r s B) (hx : Rd w Bx A xs) (hn : n = xs.length) (hl : s.out.length + xs.length ≤ 100000000) :
    Calls Try.prog 68 #[.pointer (some ⟨b, 0, none⟩), .slice A n c] w (SpecP w base b r { s with out := s.out ++ xs, dir := 0 }) := by
  subst hn
  have hc0 := g.sb.c0
  have hfr := g.sb.free 0
  have HG := Lib.hid g
  have HX := Lib.hid hx
  have HL := Lib.hid hl
  clear g hx hl
  go_enter Try.func68, Try.ntmps68
  go_wp2_with (at_builtin; refine wpList_row rfl (.tmp 8) (.tmp 9) rfl rfl base Bx r s.out xs A xs.length c rfl rfl HG.out.row HX.out rfl HG.out.base ?c1 ?_)
  case c1 => have := HL.out; omega
  intro v' w1 hr1 hk1 hat
  obtain ⟨Av, cv, hv', _, _, _⟩ := hr1.form
  obtain ⟨L, hL⟩ : ∃ L, (s.out ++ xs).length = L := ⟨_, rfl⟩
  rw [hL] at hv'
  subst hv'
  clear hL
  have hne : b ∉ own r := HG.out.row.ne HG.out.sb (by decide)
  have hb1 := HG.out.sb.only hk1 hne
  have hf1 := hb1.free 0
  have hc1 := hb1.c1
  have hc0' := hb1.c0
  have hf2 := hb1.free 1
  have HQ : Hid (SpecP w base b r { s with out := s.out ++ xs, dir := 0 } (.returned (.tuple #[])) ((w1.setCell ⟨b, 0, none⟩ (.slice Av L cv)).setCell ⟨b, 1, none⟩ (.int .i64 0))) := Lib.hid (by
    have ho : Only (b :: own r) w ((w1.setCell ⟨b, 0, none⟩ (.slice Av L cv)).setCell ⟨b, 1, none⟩ (.int .i64 0)) := ((hk1.more (fun k hk _ => by simp [hk])).setCell (.inl (by simp)) _).setCell (.inl (by simp)) _
    have hne1 : b ∉ own (.slice Av L cv) := hr1.ne hb1 (by decide)
    refine ⟨rfl, ho, .slice Av L cv, ((hb1.set0 (.slice Av L cv)).set1 0).outs _, hr1.only (l := [b]) (((Only.refl _ _).setCell (.inl (by simp)) _).setCell (.inl (by simp)) _) (by intro k hk; simp only [List.mem_singleton] at hk; subst hk; exact hne1), OwnLe.of hat, ?_⟩
    exact Nat.zero_le _)
  clear hr1 hk1 hat hne hb1 HX HG
  go_wp2_with fail
  go_end0
  exact HQ.out

end Go.Proofs.Ytlpmjahhdbcfiaa

/-! ### The reference's builder: taking back, elements, prefixes: contracts. -/
namespace Go.Proofs.Ytlpmjahhdbcfiaa
open Go.RowKit

theorem sback_bad (b : Nat) (r : Value) (s : St) (n : Int) (w : World) (base B : Nat) (g : SGood w base b r s B) (h : n < 0 ∨ (s.dir : Int) < n) :
    Calls Try.prog 40 #[.pointer (some ⟨b, 0, none⟩), .int .i64 n] w (SpecP w base b r { s with wr := true }) := by
  have hc1 := g.sb.c1
  have hc3 := g.sb.c3
  have hf3 := g.sb.free 3
  have HQ : Hid (SpecP w base b r { s with wr := true } (.returned (.tuple #[])) (w.setCell ⟨b, 3, none⟩ (.bool true))) := Lib.hid (by
    have hne : b ∉ own r := g.row.ne g.sb (by decide)
    exact ⟨rfl, (Only.refl _ _).setCell (.inl (by simp)) _, r, g.sb.set3 true, g.row.only (l := [b]) ((Only.refl _ _).setCell (.inl (by simp)) _) (by intro k hk; simp only [List.mem_singleton] at hk; subst hk; exact hne), OwnLe.refl _ _, g.dir⟩)
  clear g
  by_cases h0 : n < 0
  · go_enter Try.func40, Try.ntmps40
    go_wp2_with fail
    go_end0
    exact HQ.out
  · have h1 : (s.dir : Int) < n := by omega
    go_enter Try.func40, Try.ntmps40
    go_wp2_with fail
    go_end0
    exact HQ.out
set_option maxHeartbeats 1000000 in
set_option maxRecDepth 100000 in
theorem sback_ok (b : Nat) (r : Value) (s : St) (m : Nat) (w : World) (base B : Nat) (g : SGood w base b r s B) (h : m ≤ s.dir) (hl : s.out.length ≤ 100000000) :
    Calls Try.prog 40 #[.pointer (some ⟨b, 0, none⟩), .int .i64 (m : Int)] w (SpecP w base b r { s with out := s.out.take (s.out.length - m), dir := s.dir - m }) := by
  obtain ⟨Ar, cr, hr, hrc, hrm, _⟩ := g.row.form
  have hc0 := g.sb.c0
  have hc1 := g.sb.c1
  have hf0 := g.sb.free 0
  have hf1 := g.sb.free 1
  rw [hr] at hc0
  have hd := g.dir
  have hne : b ∉ own r := g.row.ne g.sb (by decide)
  have hrow := g.row
  rw [hr] at hrow hne
  obtain ⟨k, hk⟩ : ∃ k, s.out.length - m = k := ⟨_, rfl⟩
  rw [hk]
  have HCUT := Lib.hid (hrow.cutTo rfl k (by omega))
  have hoe : own (.slice Ar k cr) = own (.slice Ar s.out.length cr) := by cases Ar <;> rfl
  have HNE : Hid (b ∉ own (.slice Ar k cr)) := Lib.hid (by rw [hoe]; exact hne)
  have HOW : Hid (OwnLe w r (.slice Ar k cr)) := Lib.hid (fun x hx => .inl (by rw [hr, ← hoe]; exact hx))
  have HSB := Lib.hid g.sb
  have HD : Hid (s.dir - m ≤ (s.out.take k).length) := Lib.hid (by rw [List.length_take]; omega)
  obtain ⟨P, hP⟩ : ∃ P, s.out.length = P := ⟨_, rfl⟩
  obtain ⟨D, hD⟩ : ∃ D, s.dir = D := ⟨_, rfl⟩
  rw [hP] at hc0 hrc hl hd hk
  rw [hD] at hc1 h hd
  have e3 : IntKind.i64.wrap ((P : Int) - (m : Int)) = (k : Int) := by rw [show (P : Int) - (m : Int) = (k : Int) by omega]; exact IntWalk.i64_in _ (by omega)
  have hle : ¬ ((m : Nat) : Int) < 0 := by omega
  have hle2 : ¬ ((D : Int) < (m : Int)) := by omega
  have hkc : k ≤ cr := by omega
  have hkc' : (k : Int) ≤ (cr : Int) := by omega
  have hk0 : ¬ (k : Int) < 0 := by omega
  have hdm : wrap64 ((D : Int) - (m : Int)) = (((D - m : Nat) : Nat) : Int) := by unfold wrap64; omega
  obtain ⟨q, hq⟩ : ∃ q, D - m = q := ⟨_, rfl⟩
  rw [hq] at hdm
  have HDD : Hid (s.dir - m = q) := Lib.hid (by rw [hD]; exact hq)
  clear g hr hd hD hP hk hrow hne hoe hrm h hl hq
  go_enter Try.func40, Try.ntmps40
  go_wp2_with fail
  go_still_tail 13, (by kernel_rfl)
  go_wp2_with fail
  go_end0
  refine ⟨rfl, ?_, .slice Ar k cr, ?_, ?_, HOW.out, HD.out⟩
  · exact (((Only.refl _ _).setCell (.inl (by simp)) _).drew).setCell (.inl (by simp)) _
  · rw [HDD.out]
    exact (((HSB.out.set0 (.slice Ar k cr)).only (l := []) (Only.refl _ _).drew (by simp)).set1 q).outs _
  · refine HCUT.out.only (l := [b]) ((((Only.refl _ _).setCell (.inl (by simp)) _).drew).setCell (.inl (by simp)) _) ?_
    intro x hx
    simp only [List.mem_singleton] at hx
    subst hx
    exact HNE.out

/-- The reference's element, prefix. -/
theorem sfail {w : World} {b : Nat} {r : Value} {s : St} {base B : Nat} (g : SGood w base b r s B) : SpecP w base b r { s with fl := true } (.returned (.tuple #[])) (w.setCell ⟨b, 2, none⟩ (.bool true)) := by
  have hne : b ∉ own r := g.row.ne g.sb (by decide)
  exact ⟨rfl, (Only.refl _ _).setCell (.inl (by simp)) _, r, g.sb.set2 true, g.row.only (l := [b]) ((Only.refl _ _).setCell (.inl (by simp)) _) (by intro k hk; simp only [List.mem_singleton] at hk; subst hk; exact hne), OwnLe.refl _ _, g.dir⟩
theorem selem_any (b : Nat) (r : Value) (s : St) (t : Int) (A : Option Addr) (n c : Nat) (xs : List Int) (w : World) (base B Bx : Nat) (g : SGood w base b r s B) (hx : Rd w Bx A xs) (hBx : Bx ≤ w.heap.size) (hn : n = xs.length) (ht : 0 ≤ t ∧ t ≤ 255) (hl : s.out.length + xs.length ≤ 8000000) :
    Calls Try.prog 38 #[.pointer (some ⟨b, 0, none⟩), .int .i64 t, .slice A n c] w (SpecP w base b r (sElem t xs s)) := by
  have hc2 := g.sb.c2
  have hf2 := g.sb.free 2
  have HF := Lib.hid (sfail g)
  have htm : Int.tmod t 32 = t % 32 := Int.tmod_eq_emod_of_nonneg ht.1
  by_cases h31 : t % 32 = 31
  · rw [show sElem t xs s = { s with fl := true } from if_pos h31]
    clear g hx hn ht hl hBx
    go_enter Try.func38, Try.ntmps38
    go_wp2_with fail
    go_end0
    exact HF.out
  · rw [show sElem t xs s = { s with out := s.out ++ wrapped t xs, dir := 0 } from if_neg h31]
    have HW := Lib.hid (wrapped_any t A n c xs w Bx hx hn hBx ht (by omega))
    have HP : Hid (∀ W A2 c2, Only [] w W → Rd W W.heap.size A2 (wrapped t xs) → Calls Try.prog 68 #[.pointer (some ⟨b, 0, none⟩), .slice A2 (wrapped t xs).length c2] W (SpecP w base b r { s with out := s.out ++ wrapped t xs, dir := 0 })) := Lib.hid (fun W A2 c2 ho hr => by
      have hw := hdr_len_le t xs.length
      refine Calls.mono (sput_any b r s A2 _ c2 (wrapped t xs) W base B _ (g.grow ho) hr rfl (by unfold wrapped; rw [List.length_append]; omega)) (fun e w' h => SpecP.trans h (ho.more (by simp)) (OwnLe.refl _ _)))
    have HBY := Lib.hid (show ∀ W A2 c2, W.ownsRow w.heap.size 5 1 (.slice A2 (wrapped t xs).length c2) (wrapped t xs).length ((wrapped t xs).map (Value.int .u8)) → Rd W W.heap.size A2 (wrapped t xs) from fun W A2 c2 h => Rd.of_own (Byt.append (hdr_byt ht) hx.1) h)
    clear g hx hn ht hl hBx HF
    go_enter Try.func38, Try.ntmps38
    go_wp2_with fail
    refine HW.out.mono ?_
    rintro e w1 ⟨A2, c2, rfl, hc, hm, hown, hk⟩
    have H2 := Lib.hid (HP.out w1 A2 c2 hk (HBY.out w1 A2 c2 hown))
    generalize wrapped t xs = ws at *
    clear hc hm hown hk HW HP HBY
    go_wp2_with fail
    refine H2.out.mono ?_
    intro e w2 h
    obtain rfl : e = .returned (.tuple #[]) := h.1
    have HQ := Lib.hid h
    clear h H2
    go_wp2_with fail
    go_end0
    exact HQ.out

set_option maxRecDepth 100000 in
theorem spre_any1 (b : Nat) (r : Value) (s : St) (A : Option Addr) (n c : Nat) (xs : List Int) (w : World) (base B Bx : Nat) (g : SGood w base b r s B) (hx : Rd w Bx A xs) (hBx : Bx ≤ w.heap.size) (hn : n = xs.length) (hl : s.out.length + xs.length ≤ 8000000) :
    Calls Try.prog 36 #[.pointer (some ⟨b, 0, none⟩), .slice A n c, .int .i64 1] w (SpecP w base b r (sPre 1 xs s)) := by
  subst hn
  have hc2 := g.sb.c2
  have hf2 := g.sb.free 2
  have HF := Lib.hid (sfail g)
  by_cases hge : (256 : Int) ≤ (xs.length : Int)
  · rw [show sPre 1 xs s = { s with fl := true } from if_pos (by simp only [show (256 : Nat) ^ 1 = 256 from rfl]; omega)]
    clear g hx hl hBx
    go_enter Try.func36, Try.ntmps36
    go_wp2_with fail
    go_end0
    exact HF.out
  · rw [show sPre 1 xs s = { s with out := s.out ++ (bigB (xs.length : Int) 1 ++ xs), dir := 0 } from if_neg (by simp only [show (256 : Nat) ^ 1 = 256 from rfl]; omega)]
    have HW := Lib.hid (big_any (xs.length : Int) 1 w (by omega) (by omega) (by decide))
    have HL : Hid (xs.length ≤ 8000000) := Lib.hid (by omega)
    have HP : Hid (∀ W A2 c2, Only [] w W → Rd W W.heap.size A2 (bigB (xs.length : Int) 1 ++ xs) → Calls Try.prog 68 #[.pointer (some ⟨b, 0, none⟩), .slice A2 (bigB (xs.length : Int) 1 ++ xs).length c2] W (SpecP w base b r { s with out := s.out ++ (bigB (xs.length : Int) 1 ++ xs), dir := 0 })) := Lib.hid (fun W A2 c2 ho hr => by
      refine Calls.mono (sput_any b r s A2 _ c2 (bigB (xs.length : Int) 1 ++ xs) W base B _ (g.grow ho) hr rfl (by rw [List.length_append, bigB_len]; omega)) (fun e w' h => SpecP.trans h (ho.more (by simp)) (OwnLe.refl _ _)))
    have HX := Lib.hid (fun (W : World) (ho : Only [] w W) => hx.only ho (by simp) hBx)
    clear g hx hl hBx HF
    have hu : IntKind.u64.wrap (xs.length : Int) = (xs.length : Int) := wrap_id_u64 _ (by omega) (by have := HL.out; omega)
    go_enter Try.func36, Try.ntmps36
    go_wp2_with fail
    refine HW.out.mono ?_
    rintro e w1 ⟨A2, c2, rfl, hc, hm, hown, hk⟩
    have HR1 : Hid (Row w1 w.heap.size (.slice A2 (bigB (xs.length : Int) 1).length c2) (bigB (xs.length : Int) 1)) := Lib.hid ⟨bigB_byt _ _, hown⟩
    have HX1 := Lib.hid (HX.out w1 hk)
    have HK1 := Lib.hid hk
    have HLB : Hid ((bigB (xs.length : Int) 1).length = 1) := Lib.hid (bigB_len _ _)
    clear hc hm hown hk HW HX
    go_wp2_with (at_builtin; refine wpList_row rfl (.tmp 20) (.tmp 21) rfl rfl w.heap.size Bx _ (bigB (xs.length : Int) 1) xs A xs.length c rfl rfl HR1.out HX1.out rfl ?c1 ?c2 ?_)
    case c1 => exact HK1.out.size
    case c2 => have := HL.out; have := HLB.out; omega
    intro v' w2 hr2 hk2 hat
    have hk2' : Only [] w w2 := HK1.out.then hk2 (by
      intro i hi hlt
      have := HR1.out.low i hi
      omega)
    obtain ⟨Av, cv, rfl, _, _, _⟩ := hr2.form
    have H2 := Lib.hid (HP.out w2 Av cv hk2' (hr2.rd rfl))
    clear hr2 hk2 hat hk2' HP HX1 HR1
    generalize bigB (xs.length : Int) 1 ++ xs = ws at *
    go_wp2_with fail
    refine H2.out.mono ?_
    intro e w3 h
    obtain rfl : e = .returned (.tuple #[]) := h.1
    have HQ := Lib.hid h
    clear h H2
    go_wp2_with fail
    go_end0
    exact HQ.out

set_option maxRecDepth 100000 in
theorem spre_any2 (b : Nat) (r : Value) (s : St) (A : Option Addr) (n c : Nat) (xs : List Int) (w : World) (base B Bx : Nat) (g : SGood w base b r s B) (hx : Rd w Bx A xs) (hBx : Bx ≤ w.heap.size) (hn : n = xs.length) (hl : s.out.length + xs.length ≤ 8000000) :
    Calls Try.prog 36 #[.pointer (some ⟨b, 0, none⟩), .slice A n c, .int .i64 2] w (SpecP w base b r (sPre 2 xs s)) := by
  subst hn
  have hc2 := g.sb.c2
  have hf2 := g.sb.free 2
  have HF := Lib.hid (sfail g)
  by_cases hge : (65536 : Int) ≤ (xs.length : Int)
  · rw [show sPre 2 xs s = { s with fl := true } from if_pos (by simp only [show (256 : Nat) ^ 2 = 65536 from rfl]; omega)]
    clear g hx hl hBx
    go_enter Try.func36, Try.ntmps36
    go_wp2_with fail
    go_end0
    exact HF.out
  · rw [show sPre 2 xs s = { s with out := s.out ++ (bigB (xs.length : Int) 2 ++ xs), dir := 0 } from if_neg (by simp only [show (256 : Nat) ^ 2 = 65536 from rfl]; omega)]
    have HW := Lib.hid (big_any (xs.length : Int) 2 w (by omega) (by omega) (by decide))
    have HL : Hid (xs.length ≤ 8000000) := Lib.hid (by omega)
    have HP : Hid (∀ W A2 c2, Only [] w W → Rd W W.heap.size A2 (bigB (xs.length : Int) 2 ++ xs) → Calls Try.prog 68 #[.pointer (some ⟨b, 0, none⟩), .slice A2 (bigB (xs.length : Int) 2 ++ xs).length c2] W (SpecP w base b r { s with out := s.out ++ (bigB (xs.length : Int) 2 ++ xs), dir := 0 })) := Lib.hid (fun W A2 c2 ho hr => by
      refine Calls.mono (sput_any b r s A2 _ c2 (bigB (xs.length : Int) 2 ++ xs) W base B _ (g.grow ho) hr rfl (by rw [List.length_append, bigB_len]; omega)) (fun e w' h => SpecP.trans h (ho.more (by simp)) (OwnLe.refl _ _)))
    have HX := Lib.hid (fun (W : World) (ho : Only [] w W) => hx.only ho (by simp) hBx)
    clear g hx hl hBx HF
    have hu : IntKind.u64.wrap (xs.length : Int) = (xs.length : Int) := wrap_id_u64 _ (by omega) (by have := HL.out; omega)
    go_enter Try.func36, Try.ntmps36
    go_wp2_with fail
    refine HW.out.mono ?_
    rintro e w1 ⟨A2, c2, rfl, hc, hm, hown, hk⟩
    have HR1 : Hid (Row w1 w.heap.size (.slice A2 (bigB (xs.length : Int) 2).length c2) (bigB (xs.length : Int) 2)) := Lib.hid ⟨bigB_byt _ _, hown⟩
    have HX1 := Lib.hid (HX.out w1 hk)
    have HK1 := Lib.hid hk
    have HLB : Hid ((bigB (xs.length : Int) 2).length = 2) := Lib.hid (bigB_len _ _)
    clear hc hm hown hk HW HX
    go_wp2_with (at_builtin; refine wpList_row rfl (.tmp 20) (.tmp 21) rfl rfl w.heap.size Bx _ (bigB (xs.length : Int) 2) xs A xs.length c rfl rfl HR1.out HX1.out rfl ?c1 ?c2 ?_)
    case c1 => exact HK1.out.size
    case c2 => have := HL.out; have := HLB.out; omega
    intro v' w2 hr2 hk2 hat
    have hk2' : Only [] w w2 := HK1.out.then hk2 (by
      intro i hi hlt
      have := HR1.out.low i hi
      omega)
    obtain ⟨Av, cv, rfl, _, _, _⟩ := hr2.form
    have H2 := Lib.hid (HP.out w2 Av cv hk2' (hr2.rd rfl))
    clear hr2 hk2 hat hk2' HP HX1 HR1
    generalize bigB (xs.length : Int) 2 ++ xs = ws at *
    go_wp2_with fail
    refine H2.out.mono ?_
    intro e w3 h
    obtain rfl : e = .returned (.tuple #[]) := h.1
    have HQ := Lib.hid h
    clear h H2
    go_wp2_with fail
    go_end0
    exact HQ.out

set_option maxRecDepth 100000 in
theorem spre_any3 (b : Nat) (r : Value) (s : St) (A : Option Addr) (n c : Nat) (xs : List Int) (w : World) (base B Bx : Nat) (g : SGood w base b r s B) (hx : Rd w Bx A xs) (hBx : Bx ≤ w.heap.size) (hn : n = xs.length) (hl : s.out.length + xs.length ≤ 8000000) :
    Calls Try.prog 36 #[.pointer (some ⟨b, 0, none⟩), .slice A n c, .int .i64 3] w (SpecP w base b r (sPre 3 xs s)) := by
  subst hn
  have hc2 := g.sb.c2
  have hf2 := g.sb.free 2
  have HF := Lib.hid (sfail g)
  by_cases hge : (16777216 : Int) ≤ (xs.length : Int)
  · rw [show sPre 3 xs s = { s with fl := true } from if_pos (by simp only [show (256 : Nat) ^ 3 = 16777216 from rfl]; omega)]
    clear g hx hl hBx
    go_enter Try.func36, Try.ntmps36
    go_wp2_with fail
    go_end0
    exact HF.out
  · rw [show sPre 3 xs s = { s with out := s.out ++ (bigB (xs.length : Int) 3 ++ xs), dir := 0 } from if_neg (by simp only [show (256 : Nat) ^ 3 = 16777216 from rfl]; omega)]
    have HW := Lib.hid (big_any (xs.length : Int) 3 w (by omega) (by omega) (by decide))
    have HL : Hid (xs.length ≤ 8000000) := Lib.hid (by omega)
    have HP : Hid (∀ W A2 c2, Only [] w W → Rd W W.heap.size A2 (bigB (xs.length : Int) 3 ++ xs) → Calls Try.prog 68 #[.pointer (some ⟨b, 0, none⟩), .slice A2 (bigB (xs.length : Int) 3 ++ xs).length c2] W (SpecP w base b r { s with out := s.out ++ (bigB (xs.length : Int) 3 ++ xs), dir := 0 })) := Lib.hid (fun W A2 c2 ho hr => by
      refine Calls.mono (sput_any b r s A2 _ c2 (bigB (xs.length : Int) 3 ++ xs) W base B _ (g.grow ho) hr rfl (by rw [List.length_append, bigB_len]; omega)) (fun e w' h => SpecP.trans h (ho.more (by simp)) (OwnLe.refl _ _)))
    have HX := Lib.hid (fun (W : World) (ho : Only [] w W) => hx.only ho (by simp) hBx)
    clear g hx hl hBx HF
    have hu : IntKind.u64.wrap (xs.length : Int) = (xs.length : Int) := wrap_id_u64 _ (by omega) (by have := HL.out; omega)
    go_enter Try.func36, Try.ntmps36
    go_wp2_with fail
    refine HW.out.mono ?_
    rintro e w1 ⟨A2, c2, rfl, hc, hm, hown, hk⟩
    have HR1 : Hid (Row w1 w.heap.size (.slice A2 (bigB (xs.length : Int) 3).length c2) (bigB (xs.length : Int) 3)) := Lib.hid ⟨bigB_byt _ _, hown⟩
    have HX1 := Lib.hid (HX.out w1 hk)
    have HK1 := Lib.hid hk
    have HLB : Hid ((bigB (xs.length : Int) 3).length = 3) := Lib.hid (bigB_len _ _)
    clear hc hm hown hk HW HX
    go_wp2_with (at_builtin; refine wpList_row rfl (.tmp 20) (.tmp 21) rfl rfl w.heap.size Bx _ (bigB (xs.length : Int) 3) xs A xs.length c rfl rfl HR1.out HX1.out rfl ?c1 ?c2 ?_)
    case c1 => exact HK1.out.size
    case c2 => have := HL.out; have := HLB.out; omega
    intro v' w2 hr2 hk2 hat
    have hk2' : Only [] w w2 := HK1.out.then hk2 (by
      intro i hi hlt
      have := HR1.out.low i hi
      omega)
    obtain ⟨Av, cv, rfl, _, _, _⟩ := hr2.form
    have H2 := Lib.hid (HP.out w2 Av cv hk2' (hr2.rd rfl))
    clear hr2 hk2 hat hk2' HP HX1 HR1
    generalize bigB (xs.length : Int) 3 ++ xs = ws at *
    go_wp2_with fail
    refine H2.out.mono ?_
    intro e w3 h
    obtain rfl : e = .returned (.tuple #[]) := h.1
    have HQ := Lib.hid h
    clear h H2
    go_wp2_with fail
    go_end0
    exact HQ.out

set_option maxRecDepth 100000 in
theorem spre_any4 (b : Nat) (r : Value) (s : St) (A : Option Addr) (n c : Nat) (xs : List Int) (w : World) (base B Bx : Nat) (g : SGood w base b r s B) (hx : Rd w Bx A xs) (hBx : Bx ≤ w.heap.size) (hn : n = xs.length) (hl : s.out.length + xs.length ≤ 8000000) :
    Calls Try.prog 36 #[.pointer (some ⟨b, 0, none⟩), .slice A n c, .int .i64 4] w (SpecP w base b r (sPre 4 xs s)) := by
  subst hn
  have hc2 := g.sb.c2
  have hf2 := g.sb.free 2
  have HF := Lib.hid (sfail g)
  by_cases hge : (4294967296 : Int) ≤ (xs.length : Int)
  · rw [show sPre 4 xs s = { s with fl := true } from if_pos (by simp only [show (256 : Nat) ^ 4 = 4294967296 from rfl]; omega)]
    clear g hx hl hBx
    go_enter Try.func36, Try.ntmps36
    go_wp2_with fail
    go_end0
    exact HF.out
  · rw [show sPre 4 xs s = { s with out := s.out ++ (bigB (xs.length : Int) 4 ++ xs), dir := 0 } from if_neg (by simp only [show (256 : Nat) ^ 4 = 4294967296 from rfl]; omega)]
    have HW := Lib.hid (big_any (xs.length : Int) 4 w (by omega) (by omega) (by decide))
    have HL : Hid (xs.length ≤ 8000000) := Lib.hid (by omega)
    have HP : Hid (∀ W A2 c2, Only [] w W → Rd W W.heap.size A2 (bigB (xs.length : Int) 4 ++ xs) → Calls Try.prog 68 #[.pointer (some ⟨b, 0, none⟩), .slice A2 (bigB (xs.length : Int) 4 ++ xs).length c2] W (SpecP w base b r { s with out := s.out ++ (bigB (xs.length : Int) 4 ++ xs), dir := 0 })) := Lib.hid (fun W A2 c2 ho hr => by
      refine Calls.mono (sput_any b r s A2 _ c2 (bigB (xs.length : Int) 4 ++ xs) W base B _ (g.grow ho) hr rfl (by rw [List.length_append, bigB_len]; omega)) (fun e w' h => SpecP.trans h (ho.more (by simp)) (OwnLe.refl _ _)))
    have HX := Lib.hid (fun (W : World) (ho : Only [] w W) => hx.only ho (by simp) hBx)
    clear g hx hl hBx HF
    have hu : IntKind.u64.wrap (xs.length : Int) = (xs.length : Int) := wrap_id_u64 _ (by omega) (by have := HL.out; omega)
    go_enter Try.func36, Try.ntmps36
    go_wp2_with fail
    refine HW.out.mono ?_
    rintro e w1 ⟨A2, c2, rfl, hc, hm, hown, hk⟩
    have HR1 : Hid (Row w1 w.heap.size (.slice A2 (bigB (xs.length : Int) 4).length c2) (bigB (xs.length : Int) 4)) := Lib.hid ⟨bigB_byt _ _, hown⟩
    have HX1 := Lib.hid (HX.out w1 hk)
    have HK1 := Lib.hid hk
    have HLB : Hid ((bigB (xs.length : Int) 4).length = 4) := Lib.hid (bigB_len _ _)
    clear hc hm hown hk HW HX
    go_wp2_with (at_builtin; refine wpList_row rfl (.tmp 20) (.tmp 21) rfl rfl w.heap.size Bx _ (bigB (xs.length : Int) 4) xs A xs.length c rfl rfl HR1.out HX1.out rfl ?c1 ?c2 ?_)
    case c1 => exact HK1.out.size
    case c2 => have := HL.out; have := HLB.out; omega
    intro v' w2 hr2 hk2 hat
    have hk2' : Only [] w w2 := HK1.out.then hk2 (by
      intro i hi hlt
      have := HR1.out.low i hi
      omega)
    obtain ⟨Av, cv, rfl, _, _, _⟩ := hr2.form
    have H2 := Lib.hid (HP.out w2 Av cv hk2' (hr2.rd rfl))
    clear hr2 hk2 hat hk2' HP HX1 HR1
    generalize bigB (xs.length : Int) 4 ++ xs = ws at *
    go_wp2_with fail
    refine H2.out.mono ?_
    intro e w3 h
    obtain rfl : e = .returned (.tuple #[]) := h.1
    have HQ := Lib.hid h
    clear h H2
    go_wp2_with fail
    go_end0
    exact HQ.out

end Go.Proofs.Ytlpmjahhdbcfiaa

/-! ### The reference's contents of unsigned integers; its elements without steps within: contracts. -/
namespace Go.Proofs.Ytlpmjahhdbcfiaa
open Go.RowKit

theorem uocts_nine (v : Int) (h0 : 9223372036854775808 ≤ v) (h1 : v ≤ 18446744073709551615) : uocts v = 0 :: bigB v 8 := by
  have e : uL v = 9 := uL_eq (by decide) (by decide) (by simp; omega) (fun _ => by simp; omega)
  unfold uocts
  rw [e]
  simp [bigB] <;> omega
set_option maxRecDepth 100000 in
theorem uintContents_any (v : Int) (w : World) (h0 : 0 ≤ v) (h1 : v ≤ 18446744073709551615) :
    Calls Try.prog 71 #[.int .u64 v] w (Copied w (uocts v)) := by
  by_cases hs : v < 9223372036854775808
  · have hc : IntKind.i64.wrap v = v := IntWalk.i64_in _ (by omega)
    have H := Lib.hid (octets_any v w (by omega) (by omega))
    have HU := Lib.hid (uL_iL v h0 (by omega))
    clear h0 h1
    go_enter Try.func71, Try.ntmps71
    go_wp2_with fail
    refine H.out.mono ?_
    rintro e w1 ⟨A, c, rfl, h1, h2, h3, h4⟩
    have HQ := Lib.hid (And.intro h1 (And.intro h2 (And.intro h3 h4)))
    clear h1 h2 h3 h4 H
    go_wp2_with fail
    go_ret
    rw [show uocts v = octs v by unfold uocts octs; rw [HU.out]]
    exact ⟨A, c, rfl, HQ.out⟩
  · rw [uocts_nine v (by omega) h1]
    have HV := Lib.hid (And.intro h0 h1)
    have HS : Hid (Row (w.alloc (.cells #[.int .u8 0] 5)) w.heap.size (.slice (some ⟨w.heap.size, 0, none⟩) 1 1) [0]) := Lib.hid (Row.lit w w.heap.size [0] (Nat.le_refl _) (by intro x hx; simp only [List.mem_singleton] at hx; omega) (by unfold maxLen; simp))
    clear h0 h1
    go_enter Try.func71, Try.ntmps71
    go_wp2_with fail
    go_loopw [3, 4] (fun o i W => ∃ k : Nat, k ≤ 8 ∧ i = .int .i64 (8 - (k : Int)) ∧ Row W w.heap.size o (0 :: bigB (v / 256 ^ k) (8 - k)) ∧ Only [] w W) (fun _ i _ => (8 - intOf i).toNat)
    case atStart => exact ⟨8, Nat.le_refl _, by simp, HS.out, (Only.refl _ _).alloc _⟩
    case round =>
      obtain ⟨k1, hk, rfl, hrow, hko⟩ := hrel
      rcases k1 with _ | k
      · rw [Int.natCast_zero, Int.sub_zero]
        have HR : Hid (Row wr w.heap.size u3 (0 :: bigB v 8)) := Lib.hid (by simpa using hrow)
        have HK := Lib.hid hko
        clear hrow hko hk
        go_wp2_with fail
        go_ret
        exact HR.out.copied' HK.out
      · have hx : Byt [v / 2 ^ (56 - 8 * (7 - k)) % 256] := by
          intro x hx
          simp only [List.mem_singleton] at hx
          omega
        have HK := Lib.hid hko
        have HX := Lib.hid (Row.lit wr w.heap.size [v / 2 ^ (56 - 8 * (7 - k)) % 256] HK.out.size hx (by unfold maxLen; simp))
        have HRA := Lib.hid (hrow.alloc (.cells (([v / 2 ^ (56 - 8 * (7 - k)) % 256] : List Int).map (Value.int .u8)).toArray 5))
        have HKK := Lib.hid hk
        have hi8 : (8 : Int) - ((k + 1 : Nat) : Int) = 7 - (k : Int) := by omega
        have hlt8 : (7 : Int) - (k : Int) < 8 := by omega
        have hk7 : (k : Int) ≤ 7 := by omega
        rw [hi8]
        clear hx hrow hko hk hi8
        go_wp2_with (at_builtin; refine wpList_row rfl _ _ rfl rfl w.heap.size _ _ _ [v / 2 ^ (56 - 8 * (7 - k)) % 256] (some ⟨wr.heap.size, 0, none⟩) 1 1 rfl rfl HRA.out (HX.out.rd rfl) rfl ?c1 ?c2 ?_)
        case c1 => have := HK.out.size; simp; omega
        case c2 => simp [bigB_len]; have := HKK.out; omega
        intro v' w1 hr1 hk1 _
        have hk2 : Only [] w w1 := (HK.out.alloc _).then hk1 (by
          intro i hi hlt
          have := HRA.out.low i hi
          omega)
        have HR1 := Lib.hid hr1
        have HK1 := Lib.hid hk2
        clear hr1 hk1 hk2 HX HRA
        go_wp2_with fail
        go_roundw
        case rel =>
          refine ⟨k, by have := HKK.out; omega, ?_, ?_, HK1.out⟩
          · first | rfl | (exact congrArg _ (by omega)) | (exact congrArg _ (by unfold wrap64; omega))
          · have hb := HR1.out
            have e1 : 8 - k = (8 - (k + 1)) + 1 := by have := HKK.out; omega
            rw [show 56 - 8 * (7 - k) = 8 * k by have := HKK.out; omega] at hb
            rw [e1, bigB_succ, Int.ediv_ediv_of_nonneg (Int.le_of_lt (Int.pow_pos (by decide))), ← Int.pow_succ, ← two_pow_eight]
            rw [two_pow_eight] at hb ⊢
            rw [show 8 - (k + 1) = 7 - k by omega]
            exact hb
        case measure => simp [intOf]; omega

end Go.Proofs.Ytlpmjahhdbcfiaa
