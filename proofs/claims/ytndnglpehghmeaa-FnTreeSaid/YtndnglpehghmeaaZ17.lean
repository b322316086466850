/- Steps that came in as an argument: what memory holds of them. -/
import Derived.Test.YtndnglpehghmeaaZ9
import Derived.SizedLaws
import Derived.ChangeArms
import Derived.ChangeSlices
import Derived.OpenShut
import Derived.KernelRfl
/-! ### Steps that came in as an argument: what memory holds of them. -/
namespace Go.Proofs.Ytndnglpehghmeaa
open Go.RowKit Go.ChangeShapes

theorem cells_item : Try.prog.cellsOf 42 = 6 := by kernel_rfl
theorem cells_int : Try.prog.cellsOf 3 = 1 := by kernel_rfl
theorem cells_u8 : Try.prog.cellsOf 5 = 1 := by kernel_rfl
theorem cells_bytes : Try.prog.cellsOf 24 = 1 := by kernel_rfl
theorem cells_ints : Try.prog.cellsOf 40 = 1 := by kernel_rfl
theorem cells_items : Try.prog.cellsOf 22 = 1 := by kernel_rfl
theorem bytes_item : Try.prog.bytesOf 42 = 96 := by kernel_rfl
theorem bytes_int : Try.prog.bytesOf 3 = 8 := by kernel_rfl
theorem bytes_u8 : Try.prog.bytesOf 5 = 1 := by kernel_rfl

theorem weights_mem_all {H : Type} {P : Program} {e : TypeId} {n : Nat} : ∀ {ds : List (DataW H)} {i : Nat} {d : DataW H}, ds[i]? = some d → n ∈ d.weights P e → n ∈ DataW.weightsAll P e ds
  | d0 :: ds, 0, d, hd, hn => by
    simp only [List.getElem?_cons_zero, Option.some.injEq] at hd
    subst hd
    simp only [DataW.weightsAll, List.mem_append]
    exact .inl hn
  | d0 :: ds, i + 1, d, hd, hn => by
    simp only [List.getElem?_cons_succ] at hd
    simp only [DataW.weightsAll, List.mem_append]
    exact .inr (weights_mem_all hd hn)
  | [], _, _, hd, _ => by simp at hd

theorem list_six {α : Type} {l : List α} (h : l.length = 6) : ∃ a b c d e f, l = [a, b, c, d, e, f] := by
  match l, h with
  | [a, b, c, d, e, f], _ => exact ⟨a, b, c, d, e, f, rfl⟩

section
variable {H : Type} {enc : TypeId × Value → H} {w : World}

/-- A slice of bytes, opened. -/
theorem open_bytes {fuel : Nat} {cs : List Value} {x : DataW H × List MemPlace} (h : DataW.trod enc Try.prog w 0 (fun _ => true) true fuel 24 cs = some x) (hw : ∀ m ∈ x.1.weights Try.prog 24, m ≤ reachBytes) :
    ∃ A c d, cs = [.slice A d.length c] ∧ Rd w w.heap.size A d ∧ d.length ≤ c ∧ c ≤ maxLen ∧ d.length ≤ 140737488355328 := by
  rcases open_ints Try.underlying24 Try.underlying5 cells_u8 h with ⟨rfl, _⟩ | ⟨a, l, c, zs, rfl, _, hl, hm, hz, rfl, hcell, hwz⟩
  · exact ⟨none, 0, [], rfl, Rd.nil _ _ _, Nat.le_refl _, Nat.zero_le _, by simp⟩
  · have hz' : zs.length = c := by simpa using hz
    obtain ⟨xs, h1, h2, h3, h4⟩ := rd_of_row (w := w) (a := some a) (len := l) (cap := c) (zs := zs) (.inr ⟨a, rfl, hl, hm, hz', hcell, hwz⟩)
    subst h2
    refine ⟨some a, c, xs, rfl, h1, h3, h4, ?_⟩
    have := hw ((min xs.length zs.length + (zs.length - xs.length)) * Try.prog.bytesOf 5) (by simp [DataW.weights, Try.underlying24, lits])
    rw [bytes_u8] at this
    simp only [reachBytes] at this
    omega
/-- A slice of ints, opened. -/
theorem open_arcs {fuel : Nat} {cs : List Value} {x : DataW H × List MemPlace} (h : DataW.trod enc Try.prog w 0 (fun _ => true) true fuel 40 cs = some x) (hw : ∀ m ∈ x.1.weights Try.prog 40, m ≤ reachBytes) :
    ∃ A c d, cs = [.slice A d.length c] ∧ RdI w w.heap.size A d ∧ d.length ≤ c ∧ c ≤ maxLen ∧ d.length ≤ 140737488355328 := by
  rcases open_ints Try.underlying40 Try.underlying3 cells_int h with ⟨rfl, _⟩ | ⟨a, l, c, zs, rfl, _, hl, hm, hz, rfl, hcell, hwz⟩
  · exact ⟨none, 0, [], rfl, RdI.nil _ _ _, Nat.le_refl _, Nat.zero_le _, by simp⟩
  · have hz' : zs.length = c := by simpa using hz
    obtain ⟨xs, h1, h2, h3, h4⟩ := rdI_of_row (w := w) (a := some a) (len := l) (cap := c) (zs := zs) (.inr ⟨a, rfl, hl, hm, hz', hcell, hwz⟩)
    subst h2
    refine ⟨some a, c, xs, rfl, h1, h3, h4, ?_⟩
    have := hw ((min xs.length zs.length + (zs.length - xs.length)) * Try.prog.bytesOf 3) (by simp [DataW.weights, Try.underlying40, lits])
    rw [bytes_int] at this
    simp only [reachBytes] at this
    omega
theorem wf_i64 {n : Int} (h : (Lit.int .i64 n).wf = true) : -9223372036854775808 ≤ n ∧ n ≤ 9223372036854775807 := by
  simp [Lit.wf, IntKind.min, IntKind.max, IntKind.bits, IntKind.signed] at h
  omega
/-- What a reading of steps with so much fuel opens to. -/
def ItemsOpen (enc : TypeId × Value → H) (w : World) (fuel : Nat) : Prop :=
  ∀ (cs : List Value) (x : DataW H × List MemPlace), DataW.trod enc Try.prog w 0 (fun _ => true) true fuel 22 cs = some x → (∀ m ∈ x.1.weights Try.prog 22, m ≤ reachBytes) →
    ∃ A c its, cs = [.slice A its.len c] ∧ its.len ≤ c ∧ c ≤ maxLen ∧ its.len ≤ 140737488355328 ∧ ItsRd w w.heap.size A its ∧ Rng its ∧ Sz its
/-- What one step opens to. -/
def ItemOpen (w : World) (cs : List Value) : Prop :=
  ∃ k n t d o kids Ad cd Ao co Ak ck, cs = itemCells k n t d o Ad cd Ao co Ak kids.len ck ∧
    (-9223372036854775808 ≤ k ∧ k ≤ 9223372036854775807) ∧ (-9223372036854775808 ≤ n ∧ n ≤ 9223372036854775807) ∧ (-9223372036854775808 ≤ t ∧ t ≤ 9223372036854775807) ∧
    Rd w w.heap.size Ad d ∧ (d.length ≤ cd ∧ cd ≤ maxLen ∧ d.length ≤ 140737488355328) ∧ RdI w w.heap.size Ao o ∧ (o.length ≤ co ∧ co ≤ maxLen ∧ o.length ≤ 140737488355328) ∧
    ItsRd w w.heap.size Ak kids ∧ (kids.len ≤ ck ∧ ck ≤ maxLen ∧ kids.len ≤ 140737488355328) ∧ Rng kids ∧ Sz kids
set_option maxRecDepth 100000 in
theorem open_item {n : Nat} (ih : ItemsOpen enc w n) {cs : List Value} {x : DataW H × List MemPlace} (h : DataW.trod enc Try.prog w 0 (fun _ => true) true (n + 1) 42 cs = some x) (hw : ∀ m ∈ x.1.weights Try.prog 42, m ≤ reachBytes) : ItemOpen w cs := by
  obtain ⟨xs, n', hn', rfl, hlen, hxl, hf⟩ := DataW.trod_struct Try.underlying42 h
  obtain rfl : n' = n := by omega
  rw [cells_item] at hlen
  have hf' : ∀ (i : Nat) (t : TypeId) (off : Nat), ([(3, 0), (3, 1), (3, 2), (24, 3), (40, 4), (22, 5)] : List (TypeId × Nat))[i]? = some (t, off) → DataW.trod enc Try.prog w 0 (fun _ => true) true n' t ((cs.drop off).take (Try.prog.cellsOf t)) = xs[i]? := by
    intro i t off hi
    match i, hi with
    | 0, hi => cases hi; exact hf 0 _ rfl
    | 1, hi => cases hi; exact hf 1 _ rfl
    | 2, hi => cases hi; exact hf 2 _ rfl
    | 3, hi => cases hi; exact hf 3 _ rfl
    | 4, hi => cases hi; exact hf 4 _ rfl
    | 5, hi => cases hi; exact hf 5 _ rfl
  have hwe : ∀ (j : Nat) (t : TypeId) (d : DataW H), ([3, 3, 3, 24, 40, 22] : List TypeId)[j]? = some t → (xs.map (·.1))[j]? = some d → ∀ m ∈ d.weights Try.prog t, m ≤ reachBytes := by
    intro j t d h1 h2 m hm
    refine hw m ?_
    have := DataW.weights_mem_each h1 h2 m hm
    simp only [DataW.weights, Try.underlying42]
    exact this
  obtain ⟨y0, y1, y2, y3, y4, y5, rfl⟩ := list_six (by simpa using hxl)
  obtain ⟨v0, v1, v2, v3, v4, v5, rfl⟩ := list_six hlen
  · skip
    have g0 := hf' 0 3 0 rfl
    rw [cells_int] at g0
    replace g0 : DataW.trod enc Try.prog w 0 (fun _ => true) true n' 3 [v0] = some y0 := g0
    have g1 := hf' 1 3 1 rfl
    rw [cells_int] at g1
    replace g1 : DataW.trod enc Try.prog w 0 (fun _ => true) true n' 3 [v1] = some y1 := g1
    have g2 := hf' 2 3 2 rfl
    rw [cells_int] at g2
    replace g2 : DataW.trod enc Try.prog w 0 (fun _ => true) true n' 3 [v2] = some y2 := g2
    have g3 := hf' 3 24 3 rfl
    rw [cells_bytes] at g3
    replace g3 : DataW.trod enc Try.prog w 0 (fun _ => true) true n' 24 [v3] = some y3 := g3
    have g4 := hf' 4 40 4 rfl
    rw [cells_ints] at g4
    replace g4 : DataW.trod enc Try.prog w 0 (fun _ => true) true n' 40 [v4] = some y4 := g4
    have g5 := hf' 5 22 5 rfl
    rw [cells_items] at g5
    replace g5 : DataW.trod enc Try.prog w 0 (fun _ => true) true n' 22 [v5] = some y5 := g5
    obtain ⟨k, e0, _, w0⟩ := DataW.trod_int Try.underlying3 g0
    obtain ⟨i, e1, _, w1⟩ := DataW.trod_int Try.underlying3 g1
    obtain ⟨t, e2, _, w2⟩ := DataW.trod_int Try.underlying3 g2
    obtain ⟨Ad, cd, d, e3, d1, d2, d3, d4⟩ := open_bytes g3 (hwe 3 _ _ rfl rfl)
    obtain ⟨Ao, co, o, e4, o1, o2, o3, o4⟩ := open_arcs g4 (hwe 4 _ _ rfl rfl)
    obtain ⟨Ak, ck, kids, e5, k1, k2, k3, k4, k5, k6⟩ := ih _ _ g5 (hwe 5 _ _ rfl rfl)
    simp only [List.cons.injEq, and_true] at e0 e1 e2 e3 e4 e5
    subst e0 e1 e2 e3 e4 e5
    exact ⟨k, i, t, d, o, kids, Ad, cd, Ao, co, Ak, ck, rfl, wf_i64 w0, wf_i64 w1, wf_i64 w2, d1, ⟨d2, d3, d4⟩, o1, ⟨o2, o3, o4⟩, k4, ⟨k1, k2, k3⟩, k5, k6⟩
/-- Steps out of single steps. -/
theorem its_of (b off : Nat) (_hb : b < w.heap.size) : ∀ (r j : Nat), (∀ i, j ≤ i → i < j + r → ∃ cs, ItemOpen w cs ∧ ∀ q u, cs[q]? = some u → w.cell? ⟨b, off + 6 * i + q, none⟩ = some u) →
    ∃ its : Its, its.len = r ∧ ItsAt w w.heap.size its b (off + 6 * j) ∧ Rng its ∧ Sz its := by
  intro r
  induction r with
  | zero => intro j _; exact ⟨.nil, rfl, trivial, trivial, trivial⟩
  | succ r ih =>
    intro j h
    obtain ⟨cs, ⟨k, n, t, d, o, kids, Ad, cd, Ao, co, Ak, ck, rfl, r1, r2, r3, d1, ⟨d2, d3, d4⟩, o1, ⟨o2, o3, o4⟩, k1, ⟨k2, k3, k4⟩, k5, k6⟩, hc⟩ := h j (Nat.le_refl _) (by omega)
    obtain ⟨rest, h1, h2, h3, h4⟩ := ih (j + 1) (fun i hi hlt => h i (by omega) (by omega))
    refine ⟨.cons k n t d o kids rest, by simp only [Its.len, h1], ?_, ⟨r2, k5, h3⟩, ⟨d4, o4, k4, k6, h4⟩⟩
    refine ⟨Ad, cd, Ao, co, Ak, ck, fun i u hu => hc i u hu, r1, r2, r3, d1, d2, d3, o1, o2, o3, k2, k3, k1, ?_⟩
    rw [show off + 6 * j + 6 = off + 6 * (j + 1) by omega]
    exact h2
theorem items_open_at (n : Nat) (ih : ∀ m, m < n → ItemsOpen enc w m) : ItemsOpen enc w n := by
  intro cs x h hw
  rcases DataW.trod_slice Try.underlying22 h with ⟨rfl, _⟩ | ⟨a, len, cap, elems, rest, n1, rfl, rfl, rfl, _, hl, hm, hlen, hel, hsp, _⟩
  · exact ⟨none, 0, .nil, rfl, Nat.le_refl _, Nat.zero_le _, by simp [Its.len], fun h => absurd h (by simp [Its.len]), trivial, trivial⟩
  · have hrl : rest.length = cap - len := (hsp rfl).1
    have hsz : len ≤ 140737488355328 := by
      have := hw ((elems.length + rest.length) * Try.prog.bytesOf 42) (by simp [DataW.weights, Try.underlying22])
      rw [bytes_item, hlen] at this
      simp only [reachBytes] at this
      omega
    rcases Nat.eq_zero_or_pos len with h0 | h0
    · subst h0
      exact ⟨some a, cap, .nil, rfl, hl, hm, by simp [Its.len], fun h => absurd h (by simp [Its.len]), trivial, trivial⟩
    have each : ∀ i, i < len → ∃ cs, ItemOpen w cs ∧ ∀ q u, cs[q]? = some u → w.cell? ((a.add (i * 6)).add q) = some u := by
      intro i hi
      have hb := hel i hi
      rw [List.getElem?_eq_getElem (by omega)] at hb
      obtain ⟨cs', h1, h2⟩ := Option.bind_eq_some_iff.1 hb
      rw [cells_item] at h1
      obtain ⟨_, hcl, hcc⟩ := World.cells?_some h1
      obtain ⟨n2, rfl⟩ : ∃ n2, n1 = n2 + 1 := by
        cases n1 with
        | zero => simp [DataW.trod] at h2
        | succ n2 => exact ⟨n2, rfl⟩
      refine ⟨cs', open_item (ih n2 (by omega)) h2 ?_, ?_⟩
      · intro m hm'
        refine hw m ?_
        simp only [DataW.weights, Try.underlying22]
        exact List.mem_cons_of_mem _ (List.mem_append.2 (.inl (weights_mem_all (i := i) (d := elems[i].1) (by simp [List.getElem?_map, List.getElem?_eq_getElem (show i < elems.length by omega)]) hm')))
      · intro q u hq
        have hql : q < 6 := by
          have := (List.getElem?_eq_some_iff.1 hq).1
          omega
        rw [hcc q hql, hq]
    obtain ⟨b, off, spot⟩ := a
    have hs : spot = none := by
      obtain ⟨cs, ho, hc⟩ := each 0 h0
      obtain ⟨k, n, t, d, o, kids, Ad, cd, Ao, co, Ak, ck, rfl, _⟩ := ho
      have h1 := hc 0 _ rfl
      have := World.cell?_spot h1
      simpa [Addr.add] using this
    subst hs
    have hadd : ∀ i q : Nat, ((⟨b, off, none⟩ : Addr).add (i * 6)).add q = ⟨b, off + 6 * i + q, none⟩ := by
      intro i q
      unfold Addr.add
      by_cases hi : i * 6 = 0
      · obtain rfl : i = 0 := by omega
        by_cases hq : q = 0
        · simp [hq]
        · simp [hq]
      · by_cases hq : q = 0
        · simp [hi, hq, Nat.mul_comm]
        · simp [hi, hq, Nat.mul_comm]
    have hbl : b < w.heap.size := by
      obtain ⟨cs, ho, hc⟩ := each 0 h0
      obtain ⟨k, n, t, d, o, kids, Ad, cd, Ao, co, Ak, ck, rfl, _⟩ := ho
      have h1 := hc 0 _ rfl
      rw [hadd] at h1
      exact World.block_lt_of_cell? w _ h1
    obtain ⟨its, i1, i2, i3, i4⟩ := its_of b off hbl len 0 (fun i _ hi => by
      obtain ⟨cs, ho, hc⟩ := each i (by omega)
      exact ⟨cs, ho, fun q u hq => by rw [← hadd]; exact hc q u hq⟩)
    refine ⟨some ⟨b, off, none⟩, cap, its, by rw [i1], by omega, hm, by omega, fun _ => ⟨b, off, rfl, hbl, i2⟩, i3, i4⟩
theorem items_open (enc : TypeId × Value → H) (w : World) (n : Nat) : ItemsOpen enc w n := by
  induction n using Nat.strongRecOn with
  | ind n ih => exact items_open_at n ih
end
end Go.Proofs.Ytndnglpehghmeaa
