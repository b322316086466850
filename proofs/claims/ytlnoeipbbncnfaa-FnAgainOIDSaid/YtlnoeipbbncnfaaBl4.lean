/- flushChild: contract. -/
import Derived.Test.YtlnoeipbbncnfaaBl3
import Derived.BigQuiet
import Derived.Deep.QuietTactic
import Derived.StillTailTactics
import Derived.Deep.DeepCutAuto
import Derived.Laws.CopyOwn
namespace Go.Proofs.Ytlnoeipbbncnfaa
open Go.RowKit

theorem Row.pos {w : World} {base : Nat} {v : Value} {xs : List Int} (h : Row w base v xs) (hn : 0 < xs.length) : ∃ g c, v = .slice (some ⟨g, 0, none⟩) xs.length c ∧ base ≤ g ∧ g < w.heap.size ∧ xs.length ≤ c ∧ c ≤ maxLen := by
  rcases h.2.2 with ⟨_, h0⟩ | ⟨g, cap, cur, rfl, hb, hg, hnc, hm, _⟩
  · omega
  · exact ⟨g, cap, rfl, hb, lt_of_block hg, hnc, hm⟩
theorem Row.cell {w : World} {base g c n : Nat} {xs : List Int} (h : Row w base (.slice (some ⟨g, 0, none⟩) n c) xs) (hn : n = xs.length) (i : Nat) (hi : i < xs.length) : w.cell? ⟨g, i, none⟩ = some (.int .u8 (xs.getD i 0)) := by
  subst hn
  rw [World.ownsRow.cellAt h.2 i (by omega)]
  simp [List.getElem?_eq_getElem hi, List.getD_eq_getElem?_getD]
theorem Row.free {w : World} {base g c n : Nat} {xs : List Int} (h : Row w base (.slice (some ⟨g, 0, none⟩) n c) xs) (hn : n = xs.length) (i : Nat) : w.frozen? ⟨g, i, none⟩ = false := by
  subst hn
  exact World.ownsRow.frozenAt h.2 i
theorem Row.set {w : World} {base g c n : Nat} {xs : List Int} (h : Row w base (.slice (some ⟨g, 0, none⟩) n c) xs) (hn : n = xs.length) (i : Nat) (x : Int) (hx : 0 ≤ x ∧ x ≤ 255) : Row (w.setCell ⟨g, i, none⟩ (.int .u8 x)) base (.slice (some ⟨g, 0, none⟩) n c) (xs.set i x) := by
  subst hn
  refine ⟨fun y hy => ?_, ?_⟩
  · rcases List.mem_or_eq_of_mem_set hy with h1 | h1
    · exact h.1 y h1
    · subst h1; exact hx
  · have := (World.ownsRow.stored h.2 i (.int .u8 x)).1
    rw [List.length_set, List.map_set]
    exact this
theorem set_mid (zs js cs : List Int) (i : Nat) (x : Int) (h : i < js.length) : (zs ++ js ++ cs).set (zs.length + i) x = zs ++ js.set i x ++ cs := by
  rw [List.append_assoc, List.set_append, if_neg (by omega), Nat.add_sub_cancel_left, List.set_append, if_pos h, List.append_assoc]

theorem take_three {α : Type} (P M D : List α) (L : Nat) (h : P.length + M.length ≤ L) : (P ++ (M ++ D)).take L = P ++ (M ++ D.take (L - (P.length + M.length))) := by
  rw [← List.append_assoc, List.take_append, List.take_of_length_le (by rw [List.length_append]; omega), List.append_assoc, List.length_append]
/-- Copying within a row. -/
theorem wpList_row_copy {ops : Array Oper} {rest : List Oper} {o : Oper} {a : Act} {w : World} {Q : Exit → Act → World → Prop} (hgd : o.guard = none) (d s : Operand)
    (ho : o.op = .call { callee := .builtin .copy, args := #[d, s], argTypes := #[22, 22] }) (base g c n off so dLen dCap sLen sCap : Nat) (xs cs : List Int)
    (hd : a.eval d = .slice (some ⟨g, off, none⟩) dLen dCap) (hs : a.eval s = .slice (some ⟨g, so, none⟩) sLen sCap)
    (hr : Row w base (.slice (some ⟨g, 0, none⟩) n c) xs) (hn : n = xs.length) (hk : cs.length = Nat.min sLen dLen) (hcs : (xs.drop so).take cs.length = cs) (hfit : off + cs.length ≤ n) (hso : so + cs.length ≤ n)
    (h : ∀ w', Row w' base (.slice (some ⟨g, 0, none⟩) n c) (splice xs off cs) → Only [g] w w' → wpList Try.prog ops Q rest (a.put o.dst (goInt cs.length)) w') :
    wpList Try.prog ops Q (o :: rest) a w := by
  obtain ⟨hb, hlen, hrow⟩ := hr
  subst hn
  rcases hrow with ⟨he, _⟩ | ⟨g', cap', cur, he, hbg, hg, hnc, hcm, hsz, htake⟩
  · simp at he
  · simp only [Value.slice.injEq, Option.some.injEq, Addr.mk.injEq, and_true, true_and] at he
    obtain ⟨rfl, rfl⟩ := he
    rw [Nat.mul_one] at hsz htake
    have hcur : xs.length ≤ cur.size := by omega
    refine wpList_copy_own hgd d s 22 22 ho 5 Try.underlying22 (by obtain ⟨i0, hi, _, hz1, _⟩ := info_parts u8_info; rw [hi]; simp [hz1]) g off dLen dCap ⟨g, so, none⟩ sLen sCap hd hs cur 5 hg (cs.map (Value.int .u8)) (by simpa using hk) ?_ (by simp; omega) (Byt.oneCells cs) ?_
    · intro j v hv
      have hj : j < cs.length := by
        rcases Nat.lt_or_ge j cs.length with hj | hj
        · exact hj
        · simp [List.getElem?_eq_none hj] at hv
      have hp : (⟨g, so, none⟩ : Addr).add j = ⟨g, so + j, none⟩ := by unfold Addr.add; split <;> simp_all
      rw [hp, cell_of_row w g (so + j) cur 5 (0, 0) hg]
      have h1 : cur.toList[so + j]? = (xs.map (Value.int .u8))[so + j]? := by
        rw [← htake, List.getElem?_take, if_pos (by omega)]
      rw [Array.getElem?_toList] at h1
      rw [h1]
      have h2 : cs[j]? = xs[so + j]? := by
        conv => lhs; rw [← hcs]
        rw [List.getElem?_take, if_pos hj, List.getElem?_drop]
      rw [List.getElem?_map] at hv ⊢
      rw [h2] at hv
      exact hv
    · have hlm : (cs.map (Value.int .u8)).length = cs.length := by simp
      have hls := length_splice xs off cs hfit
      rw [hlm]
      refine h _ ⟨?_, ?_, .inr ⟨g, c, _, by rw [hls], hbg, setRow_heap w g cur _ 5 (0, 0) hg, by rw [hls]; exact hnc, hcm, ?_, ?_⟩⟩ ⟨rfl, rfl, rfl, by simp, fun k _ hk => setRow_other w g k _ (by simpa using hk)⟩
      · intro x hx
        unfold splice at hx
        rcases List.mem_append.1 hx with h1 | h1
        · exact hb x (List.mem_of_mem_take h1)
        · rcases List.mem_append.1 h1 with h2 | h2
          · rw [← hcs] at h2
            exact hb x (List.mem_of_mem_drop (List.mem_of_mem_take h2))
          · exact hb x (List.mem_of_mem_drop h2)
      · rw [List.length_map, Nat.mul_one]
      · simp
        omega
      · rw [Nat.mul_one, hls, List.toList_toArray]
        unfold splice
        rw [List.map_append, List.map_append, List.map_take, List.map_drop, ← htake]
        have hA : (cur.toList.take off).length = off := by simp; omega
        rw [take_three _ _ _ _ (by rw [hA, List.length_map]; omega), List.take_take, Nat.min_eq_left (by omega), List.drop_take, hA, List.length_map]

/-- So many zero bytes. -/
def zeroC (m : Nat) : Array Value := ((List.replicate m (0 : Int)).map (Value.int .u8)).toArray
theorem mk_run (m : Nat) (h1 : 1 ≤ m) (h4 : m ≤ 4) (W : World) : (Instr.makeSlice 22 (.int .i64 (m : Int)) (.int .i64 (m : Int))).run Try.prog W = .ok (.slice (some ⟨W.heap.size, 0, none⟩) m m) (W.alloc (.cells (zeroC m) 5)) := by
  obtain rfl | rfl | rfl | rfl : m = 1 ∨ m = 2 ∨ m = 3 ∨ m = 4 := by omega
  all_goals kernel_rfl
theorem Badd_zeros (b : Nat) (v : Bv) (ys : List Int) (m : Nat) (w : World) (base : Nat) (h : Bld w b v) (he : v.err = .nilIface) (hch : v.child = .pointer none) (hf : v.fixed = false)
    (hr : Row w base v.res ys) (hb : base ≤ w.heap.size) (hl : ys.length + m ≤ 140737488355328) :
    Calls Try.prog 40 #[.pointer (some ⟨b, 0, none⟩), .slice (some ⟨w.heap.size, 0, none⟩) m m] (w.alloc (.cells (zeroC m) 5)) (Added w base b v ys (List.replicate m 0)) := by
  have := Badd_lit b v ys (List.replicate m 0) w base h he hch hf hr hb (fun x hx => by have := List.eq_of_mem_replicate hx; omega) (by simpa using hl)
  rw [List.length_replicate] at this
  exact this

/-- A length behind its tag. -/
def lenB (n : Nat) : List Int := if n < 128 then [(n : Int)] else (128 + nb n : Nat) :: bigB n (nb n)
theorem hdr_lenB (t : Int) (n : Nat) : hdr t n = t :: lenB n := by
  unfold hdr lenB
  split <;> rfl
/-- What a length prefix becomes, if it can tell how many bytes stand behind it. -/
def fl (asn : Bool) (m n : Nat) : Option (List Int) := if asn then some (lenB n) else if n < 256 ^ m then some (bigB n m) else none

/-- A child that is to be flushed. -/
def Kid (w : World) (base c : Nat) (asn : Bool) (m : Nat) (ys cs : List Int) (inc : Value) (r : Value) : Prop :=
  Bld w c ⟨.nilIface, r, false, .pointer none, ys.length, m, asn, inc⟩ ∧ Row w base r (ys ++ List.replicate m 0 ++ cs)

theorem errorsNew_any (s : ByteArray) (w : World) : Calls Try.prog 33 #[.string s] w fun e w' => e = .returned (.iface 78 (.pointer (some ⟨w.heap.size, 0, none⟩))) ∧ w' = w.alloc (.cells #[.string s] 80) := by
  go_enter Try.func33, Try.ntmps33
  go_wp2_with fail
  go_ret
  exact ⟨rfl, rfl⟩

set_option maxRecDepth 100000 in
/-- Nothing to flush. -/
theorem flush_none (b : Nat) (v : Bv) (w : World) (h : Bld w b v) (hch : v.child = .pointer none) : Calls Try.prog 43 #[.pointer (some ⟨b, 0, none⟩)] w fun e w' => e = .returned (.tuple #[]) ∧ w = w' := by
  have h3 := h.c3
  rw [hch] at h3
  clear h hch
  go_enter Try.func43, Try.ntmps43
  go_wp2_with fail
  refine bodyPost_ret (results_none rfl _ _ _) rfl ?_
  exact ⟨rfl, rfl⟩
end Go.Proofs.Ytlnoeipbbncnfaa
