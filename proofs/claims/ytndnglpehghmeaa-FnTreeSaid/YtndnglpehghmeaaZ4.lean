/- The call of a continuation that may panic with a BuildError: contracts. Children that a panic left pending: what they are, and that flushing them ends well. Steps with a continuation that may err or panic: what they leave; the flush behind a continuation. addLengthPrefixed, whatever came before: contract. addLengthPrefixed, the length prefixes, AddASN1, whatever came before: contracts. -/
import Derived.Test.YtndnglpehghmeaaZ3
import Derived.BigRegion
import Derived.Test.YtndnglpehghmeaaZ1
/-! ### The call of a continuation that may panic with a BuildError: contracts. -/
namespace Go.Proofs.Ytndnglpehghmeaa
open Go.RowKit

/-- A pending panic with a BuildError about the error (T, u). -/
def panE (T : TypeId) (u : Value) : PanicEntry := { v := .iface 82 (.agg #[.iface T u]), recovered := false }
/-- How a continuation ends: it returns, or panics with a BuildError. -/
def RetPan (e : Ending) : Prop := e = .returned (.tuple #[]) ∨ ∃ T u, e = .panicked [panE T u]

theorem assert_berr (x : Value) (w : World) : (Instr.typeAssert (.iface 82 x) 20 82 true).run Try.prog w = .ok (.tuple #[x, .bool true]) w := by kernel_rfl
set_option maxHeartbeats 3200000 in
/-- The deferred closure where a BuildError is pending: the error is taken. -/
theorem cc_pan (pb b bi : Nat) (T : TypeId) (u : Value) (v : Bv) (y : Bool) (w : World) (hp : Var w pb 32 (.pointer (some ⟨b, 0, none⟩))) (h : Bld w b v) (hi : v.inc = .pointer (some ⟨bi, 0, none⟩)) (hv : Var w bi 4 (.bool y)) :
    CallsD Try.prog 73 #[.pointer (some ⟨pb, 0, none⟩)] (.panicking [panE T u]) w fun e u' w' =>
      e = .returned (.tuple #[]) ∧ u' = .panicking [{ panE T u with recovered := true }] ∧ w' = ((w.setCell ⟨bi, 0, none⟩ (.bool false)).alloc (.cells #[.iface T u] 82)).setCell ⟨b, 0, none⟩ (.iface T u) := by
  have hbib : bi ≠ b := by
    rintro rfl
    have := hv.symm.trans h
    simp at this
  have hpbi : pb ≠ bi := by
    rintro rfl
    have := hv.symm.trans hp
    simp at this
  have h7 := h.c7
  have h0 := h.c0
  have hf0 := h.free 0
  rw [hi] at h7
  have hc := hv.cell
  have hf := hv.free
  have hpc := hp.cell
  have g1 := ((hp.far (p := ⟨bi, 0, none⟩) hpbi (.bool false)).alloc (.cells #[.iface T u] 82)).cell
  have g2 := (Var.new (w.setCell ⟨bi, 0, none⟩ (.bool false)) 82 (.iface T u)).cell
  rw [show (w.setCell ⟨bi, 0, none⟩ (.bool false)).heap.size = w.heap.size by simp] at g2
  have g3 := ((h.far (p := ⟨bi, 0, none⟩) (Ne.symm hbib) (.bool false)).alloc (.cells #[.iface T u] 82)).c0
  have g4 := ((h.far (p := ⟨bi, 0, none⟩) (Ne.symm hbib) (.bool false)).alloc (.cells #[.iface T u] 82)).free 0
  clear hp h hi hv
  unfold panE
  refine callsD_of_wpS Try.func73 rfl fun c₀ cs hu => ?_
  apply wpS_seq
  apply wpS_region
  simp [wpOpsS, go_sem, recoverD, hu, Try.ntmps73, Exit.thenS, hpc, h7, hc, hf]
  apply wpS_seq
  apply wpS_region
  simp [wpOpsS, go_sem, recoverD, hu, Exit.thenS]
  apply wpS_seq
  apply wpS_seq
  apply wpS_region
  simp [wpOpsS, go_sem, Exit.thenS]
  refine wpS_cond (t := false) (by simp [Act.eval, Array.replicate]) ?_
  simp only [Bool.false_eq_true, if_false]
  refine wpS_of_wp (wp_skip ?_)
  simp only [Exit.thenS]
  apply wpS_seq
  apply wpS_region
  simp [wpOpsS, go_sem, Exit.thenS, assert_berr]
  apply wpS_seq
  apply wpS_region
  simp [wpOpsS, go_sem, Exit.thenS]
  refine wpS_cond (t := true) (by simp [Act.eval, Array.replicate]) ?_
  simp only [if_true]
  obtain ⟨w1, hw1⟩ : ∃ w1, (w.setCell ⟨bi, 0, none⟩ (.bool false)).alloc (.cells #[.iface T u] 82) = w1 := ⟨_, rfl⟩
  rw [hw1] at g1 g2 g3 g4 ⊢
  clear hw1 h7 h0 hf0 hc hf hpc hbib hpbi
  apply wpS_region
  simp [wpOpsS, go_sem, g1, g2, g3, g4]
  cases c₀
  simp_all [bodyPostS, results, Try.results73]

/-- What the outermost call of a continuation makes of its end. -/
def TopOut (R : Ending → World → Prop) (b bi : Nat) (w' : World) : Prop :=
  ∃ e1 w1, R e1 w1 ∧ ((e1 = .returned (.tuple #[]) ∧ w' = w1.setCell ⟨bi, 0, none⟩ (.bool false)) ∨
    ∃ T u, e1 = .panicked [panE T u] ∧ w' = ((w1.setCell ⟨bi, 0, none⟩ (.bool false)).alloc (.cells #[.iface T u] 82)).setCell ⟨b, 0, none⟩ (.iface T u))
theorem BcallCont_top2 {R : Ending → World → Prop} (b c bi : Nat) (F : FuncId) (cap : Array Value) (v : Bv) (w : World) (hF : ∀ args W, (callFunc F args).run Try.prog W = .ok (.enter F args) W) (h : Bld w b v) (hi : v.inc = .pointer (some ⟨bi, 0, none⟩)) (hv : Var w bi 4 (.bool false))
    (hf : Calls Try.prog F (#[.pointer (some ⟨c, 0, none⟩)] ++ cap) ((w.setCell ⟨bi, 0, none⟩ (.bool true)).alloc (.cells #[.pointer (some ⟨b, 0, none⟩)] 32)) R)
    (hR : ∀ e w', R e w' → RetPan e ∧ Var w' w.heap.size 32 (.pointer (some ⟨b, 0, none⟩)) ∧ (∃ v', Bld w' b v' ∧ v'.inc = .pointer (some ⟨bi, 0, none⟩)) ∧ ∃ y, Var w' bi 4 (.bool y)) :
    Calls Try.prog 69 #[.pointer (some ⟨b, 0, none⟩), .func (.func F) #[] cap, .pointer (some ⟨c, 0, none⟩)] w fun e w' => e = .returned (.tuple #[]) ∧ TopOut R b bi w' := by
  have hmf : ∀ (fn : Fn) (first cap : Array Value) (w : World), (Instr.makeFunc fn first cap).run Try.prog w = .ok (.func fn first cap) w := fun _ _ _ _ => rfl
  have h7 := h.c7
  rw [hi] at h7
  have hc := hv.cell
  have hfz := hv.free
  have HF := Lib.hid hf
  have HQ := Lib.hid hR
  have hb := h.lt
  have hbi := hv.lt
  clear hf hR h hi hv
  go_enter_defers Try.func69, Try.ntmps69
  go_wp2_with fail
  refine HF.out.mono ?_
  rintro e w1 q1
  obtain ⟨hrp, p1, ⟨v', p2, p3⟩, y, p4⟩ := HQ.out _ _ q1
  have Q1 := Lib.hid q1
  rcases hrp with rfl | ⟨T, u, rfl⟩
  · have P := Lib.hid (cc_idle w.heap.size b bi v' y w1 p1 p2 p3 p4)
    clear q1 p1 p2 p3 p4 HF HQ
    go_wp2_with fail
    refine leaves_cons (f := 73) (args := #[.pointer (some ⟨w.heap.size, 0, none⟩)]) (by simp) (by simp [go_sem]) ?_
    refine P.out.mono ?_
    rintro e u' w'' ⟨rfl, rfl, rfl⟩
    exact ⟨_, results_none rfl _ _ _, rfl, _, w1, Q1.out, .inl ⟨rfl, rfl⟩⟩
  · have P := Lib.hid (cc_pan w.heap.size b bi T u v' y w1 p1 p2 p3 p4)
    clear q1 p1 p2 p3 p4 HF HQ
    show Leaves Try.prog _ _ _ [_] (.panicking [panE T u]) _
    refine leaves_cons (f := 73) (args := #[.pointer (some ⟨w.heap.size, 0, none⟩)]) (by simp) (by simp [go_sem]) ?_
    refine P.out.mono ?_
    rintro e u' w'' ⟨rfl, rfl, rfl⟩
    exact ⟨_, results_none rfl _ _ _, rfl, _, w1, Q1.out, .inr ⟨T, u, rfl, rfl⟩⟩

theorem BcallCont_in {R : Ending → World → Prop} (b c bi : Nat) (F : FuncId) (cap : Array Value) (v : Bv) (w : World) (hF : ∀ args W, (callFunc F args).run Try.prog W = .ok (.enter F args) W) (h : Bld w b v) (hi : v.inc = .pointer (some ⟨bi, 0, none⟩)) (hv : Var w bi 4 (.bool true))
    (hf : Calls Try.prog F (#[.pointer (some ⟨c, 0, none⟩)] ++ cap) (w.alloc (.cells #[.pointer (some ⟨b, 0, none⟩)] 32)) R) (hR : ∀ e w', R e w' → RetPan e) :
    Calls Try.prog 69 #[.pointer (some ⟨b, 0, none⟩), .func (.func F) #[] cap, .pointer (some ⟨c, 0, none⟩)] w R := by
  have hmf : ∀ (fn : Fn) (first cap : Array Value) (w : World), (Instr.makeFunc fn first cap).run Try.prog w = .ok (.func fn first cap) w := fun _ _ _ _ => rfl
  have h7 := h.c7
  rw [hi] at h7
  have hc := hv.cell
  have hfz := hv.free
  have HF := Lib.hid hf
  have HQ := Lib.hid hR
  have hb := h.lt
  have hbi := hv.lt
  clear hf hR h hi hv
  go_enter_defers Try.func69, Try.ntmps69
  go_wp2_with fail
  refine HF.out.mono ?_
  rintro e w1 q1
  have hrp := HQ.out _ _ q1
  have Q1 := Lib.hid q1
  rcases hrp with rfl | ⟨T, u, rfl⟩
  · clear q1 HF HQ
    go_wp2_with fail
    exact ⟨_, results_none rfl _ _ _, Q1.out⟩
  · exact q1
end Go.Proofs.Ytndnglpehghmeaa

/-! ### Children that a panic left pending: what they are, and that flushing them ends well. -/
namespace Go.Proofs.Ytndnglpehghmeaa
open Go.RowKit

/-- The same frame of a builder: all but its error, its bytes, its child. -/
structure Like (v0 v : Bv) : Prop where
  fixed : v.fixed = v0.fixed
  off : v.off = v0.off
  pll : v.pll = v0.pll
  pasn : v.pasn = v0.pasn
  inc : v.inc = v0.inc
theorem Like.refl (v : Bv) : Like v v := ⟨rfl, rfl, rfl, rfl, rfl⟩
theorem Like.trans {a b c : Bv} (h : Like a b) (k : Like b c) : Like a c := ⟨k.fixed.trans h.fixed, k.off.trans h.off, k.pll.trans h.pll, k.pasn.trans h.pasn, k.inc.trans h.inc⟩
theorem Like.eq {v0 v : Bv} (h : Like v0 v) (he : v.err = v0.err) (hc : v.child = v0.child) : v = { v0 with res := v.res } := by
  obtain ⟨h1, h2, h3, h4, h5⟩ := h
  cases v
  cases v0
  simp_all

/-- A builder whose child, and the child's child, and so on, may be pending. 'ok': which blocks may be written; N: how long the bytes may be. -/
inductive Pend (ok : Nat → Prop) (W : World) (base : Nat) : Nat → Nat → Bv → List Int → Prop
  | err {N b : Nat} {v0 v : Bv} {pre : List Int} {T : TypeId} {u : Value} : Bld W b v → v.err = .iface T u → v.child = .pointer none → Pend ok W base N b v0 pre
  | leaf {N b : Nat} {v0 v : Bv} {pre cs : List Int} : Bld W b v → Like v0 v → v.err = .nilIface → v.child = .pointer none → Row W base v.res (pre ++ cs) → (∀ k ∈ own v.res, ok k) → (pre ++ cs).length ≤ N → Pend ok W base N b v0 pre
  | node {N b c m : Nat} {v0 v : Bv} {pre cs : List Int} {r i : Value} {asn : Bool} : Bld W b v → Like v0 v → v.err = .nilIface → v.child = .pointer (some ⟨c, 0, none⟩) → b < c → ok c → 1 ≤ m → m ≤ 4 → (asn = true → m = 1) →
      Pend ok W base N c ⟨.nilIface, r, false, .pointer none, ((pre ++ cs).length : Nat), m, asn, i⟩ (pre ++ cs ++ List.replicate m 0) → Pend ok W base (N + 5) b v0 pre
/-- The same, with nothing pending. -/
def Flat (ok : Nat → Prop) (W : World) (base N b : Nat) (v0 : Bv) (pre : List Int) : Prop :=
  ∃ v, Bld W b v ∧ v.child = .pointer none ∧ ((∃ T u, v.err = .iface T u) ∨ (Like v0 v ∧ v.err = .nilIface ∧ ∃ cs, Row W base v.res (pre ++ cs) ∧ (∀ k ∈ own v.res, ok k) ∧ (pre ++ cs).length ≤ N))
/-- What a flush may write: the builder, its children, rows of bytes, what is new. -/
def Fr (ok : Nat → Prop) (W : World) (b : Nat) (w' : World) : Prop :=
  ∃ l, Only l W w' ∧ ∀ k ∈ l, k = b ∨ (ok k ∧ (b < k ∨ ∃ cs fr, W.heap[k]? = some (.cells cs 5 fr)))

theorem Pend.ok_mono {ok ok' : Nat → Prop} {W : World} {base N b : Nat} {v0 : Bv} {pre : List Int} (h : Pend ok W base N b v0 pre) (hk : ∀ k, ok k → ok' k) : Pend ok' W base N b v0 pre := by
  induction h with
  | err h1 h3 h4 => exact .err h1 h3 h4
  | leaf h1 h2 h3 h4 h5 h6 h7 => exact .leaf h1 h2 h3 h4 h5 (fun k hm => hk k (h6 k hm)) h7
  | node h1 h2 h3 h4 h5 h6 h7 h8 h9 _ ih => exact .node h1 h2 h3 h4 h5 (hk _ h6) h7 h8 h9 ih
theorem Pend.like {ok : Nat → Prop} {W : World} {base N b : Nat} {v0 v1 : Bv} {pre : List Int} (h : Pend ok W base N b v0 pre) (hl : Like v1 v0) : Pend ok W base N b v1 pre := by
  cases h with
  | err h1 h3 h4 => exact .err h1 h3 h4
  | leaf h1 h2 h3 h4 h5 h6 h7 => exact .leaf h1 (hl.trans h2) h3 h4 h5 h6 h7
  | node h1 h2 h3 h4 h5 h6 h7 h8 h9 h10 => exact .node h1 (hl.trans h2) h3 h4 h5 h6 h7 h8 h9 h10
theorem Pend.pre {ok : Nat → Prop} {W : World} {base N b : Nat} {v0 : Bv} {pre xs : List Int} (h : Pend ok W base N b v0 (pre ++ xs)) : Pend ok W base N b v0 pre := by
  generalize hp : pre ++ xs = p at h
  cases h with
  | err h1 h3 h4 => exact .err h1 h3 h4
  | leaf h1 h2 h3 h4 h5 h6 h7 =>
    subst hp
    rw [List.append_assoc] at h5 h7
    exact .leaf h1 h2 h3 h4 h5 h6 h7
  | node h1 h2 h3 h4 h5 h6 h7 h8 h9 h10 =>
    subst hp
    rw [List.append_assoc pre xs] at h10
    exact .node h1 h2 h3 h4 h5 h6 h7 h8 h9 h10
theorem Pend.more {ok : Nat → Prop} {W : World} {base N : Nat} : ∀ {M b : Nat} {v0 : Bv} {pre : List Int}, Pend ok W base N b v0 pre → N ≤ M → Pend ok W base M b v0 pre := by
  intro M b v0 pre h
  induction h generalizing M with
  | err h1 h3 h4 => intro _; exact .err h1 h3 h4
  | leaf h1 h2 h3 h4 h5 h6 h7 => intro hm; exact .leaf h1 h2 h3 h4 h5 h6 (Nat.le_trans h7 hm)
  | node h1 h2 h3 h4 h5 h6 h7 h8 h9 _ ih =>
    intro hm
    obtain ⟨d, rfl⟩ : ∃ d, M = d + 5 := ⟨M - 5, by omega⟩
    exact .node h1 h2 h3 h4 h5 h6 h7 h8 h9 (ih (by omega))
/-- Pending children stay where blocks of other kinds, or builders before them, are written. -/
theorem Pend.only {ok : Nat → Prop} {W W' : World} {base : Nat} {l : List Nat} (ho : Only l W W') : ∀ {N b : Nat} {v0 : Bv} {pre : List Int}, Pend ok W base N b v0 pre →
    (∀ k ∈ l, ∃ cs T fr, W.heap[k]? = some (.cells cs T fr) ∧ T ≠ 5 ∧ (k < b ∨ T ≠ 35)) → Pend ok W' base N b v0 pre := by
  have hnb : ∀ {b : Nat} {v : Bv}, Bld W b v → (∀ k ∈ l, ∃ cs T fr, W.heap[k]? = some (.cells cs T fr) ∧ T ≠ 5 ∧ (k < b ∨ T ≠ 35)) → b ∉ l := by
    intro b v hb hl hm
    obtain ⟨cs, T, fr, h1, _, h3⟩ := hl b hm
    rcases h3 with h3 | h3
    · omega
    · rw [hb] at h1
      simp only [Option.some.injEq, Obj.cells.injEq] at h1
      exact h3 h1.2.1.symm
  intro N b v0 pre h
  induction h with
  | err h1 h3 h4 =>
    intro hl
    exact .err (h1.only ho (hnb h1 hl)) h3 h4
  | leaf h1 h2 h3 h4 h5 h6 h7 =>
    intro hl
    refine .leaf (h1.only ho (hnb h1 hl)) h2 h3 h4 (h5.only ho ?_) h6 h7
    intro k hk
    obtain ⟨cs, T, fr, g1, g2, _⟩ := hl k hk
    exact h5.ne g1 g2
  | node h1 h2 h3 h4 h5 h6 h7 h8 h9 _ ih =>
    intro hl
    refine .node (h1.only ho (hnb h1 hl)) h2 h3 h4 h5 h6 h7 h8 h9 (ih ?_)
    intro k hk
    obtain ⟨cs, T, fr, g1, g2, g3⟩ := hl k hk
    exact ⟨cs, T, fr, g1, g2, by rcases g3 with g | g; exact .inl (by omega); exact .inr g⟩
theorem fl_len {asn : Bool} {m n : Nat} {hs : List Int} (h : fl asn m n = some hs) : hs.length ≤ m + 5 := by
  unfold fl at h
  split at h
  · simp only [Option.some.injEq] at h
    subst h
    have h1 := hdr_len_le 0 n
    rw [hdr_lenB] at h1
    simp at h1
    omega
  · split at h
    · simp only [Option.some.injEq] at h
      subst h
      rw [bigB_len]
      omega
    · cases h

theorem Fr.bld {ok : Nat → Prop} {W w' : World} {b c : Nat} {v : Bv} (h : Fr ok W c w') (hb : Bld W b v) (hbc : b < c) : Bld w' b v := by
  obtain ⟨l, ho, hl⟩ := h
  refine hb.only ho fun hm => ?_
  rcases hl b hm with e | ⟨_, h | ⟨cs, fr, h⟩⟩
  · omega
  · omega
  · rw [hb] at h
    simp at h
set_option maxRecDepth 100000 in
theorem flush_pend {ok : Nat → Prop} {W : World} {base : Nat} (hok : ∀ k, W.heap.size ≤ k → ok k) (hbase : base ≤ W.heap.size) : ∀ {N b : Nat} {v0 : Bv} {pre : List Int}, Pend ok W base N b v0 pre → v0.fixed = false → N ≤ 2147483640 →
    Calls Try.prog 70 #[.pointer (some ⟨b, 0, none⟩)] W fun e w' => e = .returned (.tuple #[]) ∧ Flat ok w' base N b v0 pre ∧ Fr ok W b w' := by
  intro N b v0 pre h
  induction h with
  | @err N b v0 v pre T u h1 h3 h4 =>
    intro _ _
    refine (flush_none b v W h1 h4).mono ?_
    rintro e w' ⟨rfl, rfl⟩
    exact ⟨rfl, ⟨v, h1, h4, .inl ⟨T, u, h3⟩⟩, [], Only.refl _ _, by simp⟩
  | @leaf N b v0 v pre cs h1 h2 h3 h4 h5 h6 h7 =>
    intro _ _
    refine (flush_none b v W h1 h4).mono ?_
    rintro e w' ⟨rfl, rfl⟩
    exact ⟨rfl, ⟨v, h1, h4, .inr ⟨h2, h3, cs, h5, h6, h7⟩⟩, [], Only.refl _ _, by simp⟩
  | @node N b c m v0 v pre cs r i asn h1 h2 h3 h4 h5 h6 h7 h8 h9 _ ih =>
    intro hf0 hN
    refine flush_core (S := fun w1 => Flat ok w1 base N c ⟨.nilIface, r, false, .pointer none, ((pre ++ cs).length : Nat), m, asn, i⟩ (pre ++ cs ++ List.replicate m 0) ∧ Fr ok W c w1)
      (Q := fun w' => Flat ok w' base (N + 5) b v0 pre ∧ Fr ok W b w') b c v W h1 h4 (ih rfl (by omega)) ?_
    rintro w1 ⟨⟨vc, hc1, hcc, hor⟩, hfr⟩
    have hb1 := hfr.bld h1 h5
    have hfv : v.fixed = false := h2.fixed.trans hf0
    have hbne : b ≠ c := by omega
    rcases hor with ⟨T, u, hce⟩ | ⟨hlk, hce, cs', hrow, hown, hlen⟩
    · right
      refine ⟨v, vc, T, u, hb1, h4, hbne, hc1, hce, ?_⟩
      intro w' ho hb'
      refine ⟨⟨_, hb', rfl, .inl ⟨T, u, rfl⟩⟩, ?_⟩
      obtain ⟨l, hol, hl⟩ := hfr
      refine ⟨b :: l, (hol.more (by simp; intro k hk _; exact .inr hk)).trans (ho.more (by simp)), ?_⟩
      intro k hk
      rcases List.mem_cons.1 hk with rfl | hk
      · exact .inl rfl
      · rcases hl k hk with rfl | ⟨ha, hb | hb⟩
        · exact .inr ⟨h6, .inl h5⟩
        · exact .inr ⟨ha, .inl (by omega)⟩
        · exact .inr ⟨ha, .inr hb⟩
    · left
      have hsz : W.heap.size ≤ w1.heap.size := by obtain ⟨l, hol, _⟩ := hfr; exact hol.size
      have hkid : Kid w1 base c asn m (pre ++ cs) cs' i vc.res := by
        refine ⟨?_, hrow⟩
        have := hlk.eq hce hcc
        rw [this] at hc1
        exact hc1
      refine ⟨base, pre ++ cs, cs', asn, m, i, vc.res, v, hb1, h4, hfv, hbne, hkid, h7, h8, h9, ?_, by omega, ?_⟩
      · simp only [List.length_append, List.length_replicate] at hlen ⊢
        omega
      · rintro w' ⟨ho, hm⟩
        have hfr2 : Fr ok W b w' := by
          obtain ⟨l, hol, hl⟩ := hfr
          refine ⟨b :: c :: (l ++ own vc.res), (hol.more (by intro k hk _; simp [hk])).trans (ho.more (by intro k hk _; simp at hk ⊢; rcases hk with h | h | h <;> simp [h])), ?_⟩
          intro k hk
          simp only [List.mem_cons, List.mem_append] at hk
          rcases hk with rfl | rfl | hk | hk
          · exact .inl rfl
          · exact .inr ⟨h6, .inl h5⟩
          · rcases hl k hk with rfl | ⟨ha, hb | hb⟩
            · exact .inr ⟨h6, .inl h5⟩
            · exact .inr ⟨ha, .inl (by omega)⟩
            · exact .inr ⟨ha, .inr hb⟩
          · refine .inr ⟨hown k hk, ?_⟩
            rcases Nat.lt_or_ge k W.heap.size with hlt | hge
            · by_cases hkl : k ∈ l
              · rcases hl k hkl with rfl | ⟨ha, hb | hb⟩
                · exact .inl h5
                · exact .inl (by omega)
                · exact .inr hb
              · right
                have hblk := hol.block k hlt hkl
                rcases hrow.2.2 with ⟨e, _⟩ | ⟨g, cap, cur, e, _, hg, _⟩
                · rw [e] at hk; simp [own, Value.ownBlock] at hk
                · rw [e] at hk
                  simp only [own, Value.ownBlock, Option.toList_some, List.mem_singleton] at hk
                  subst hk
                  exact ⟨_, _, hblk.symm.trans hg⟩
            · have := h1.lt
              exact .inl (by omega)
        refine ⟨?_, hfr2⟩
        cases hfl : fl asn m cs'.length with
        | none =>
          rw [hfl] at hm
          obtain ⟨T, u, hb'⟩ := hm
          exact ⟨_, hb', rfl, .inl ⟨T, u, rfl⟩⟩
        | some hs =>
          rw [hfl] at hm
          obtain ⟨r', hb', hr', hown'⟩ := hm
          refine ⟨_, hb', rfl, .inr ⟨⟨h2.fixed, h2.off, h2.pll, h2.pasn, h2.inc⟩, h3, cs ++ hs ++ cs', ?_, ?_, ?_⟩⟩
          · rw [← List.append_assoc, ← List.append_assoc]
            exact hr'
          · intro k hk
            rcases hown' with e | e
            · exact hown k (by simp only [own] at hk ⊢; rw [← e]; exact hk)
            · exact hok k (by have := e k hk; omega)
          · have := fl_len hfl
            simp only [List.length_append, List.length_replicate] at hlen ⊢
            omega
end Go.Proofs.Ytndnglpehghmeaa

/-! ### Steps with a continuation that may err or panic: what they leave; the flush behind a continuation. -/
namespace Go.Proofs.Ytndnglpehghmeaa
open Go.RowKit

/-- What steps come to: bytes; an error; a panic with a BuildError that is under way. -/
inductive Res where
  | good (cs : List Int)
  | err
  | pan
/-- The block of a builder's mark, if it has one. -/
def incI : Value → List Nat
  | .pointer (some a) => [a.block]
  | _ => []
/-- The blocks that steps at a builder may write. -/
def LL (ins : Bool) (b : Nat) (v : Bv) : List Nat := b :: ((if ins then [] else incI v.inc) ++ own v.res)
theorem LL.sub {ins : Bool} {b : Nat} {v : Bv} {k : Nat} (h : k ∈ b :: own v.res) : k ∈ LL ins b v := by
  rcases List.mem_cons.1 h with rfl | h
  · simp [LL]
  · simp [LL, h]
/-- The mark as a step finds it: within a continuation it says so. -/
def Ready (w : World) (i : Value) (ins : Bool) : Prop := (ins = false ∧ i = .pointer none) ∨ ∃ bi, i = .pointer (some ⟨bi, 0, none⟩) ∧ Var w bi 4 (.bool ins)
/-- A row's block was there as another's, or is new. -/
def OwnLe (w : World) (r0 r : Value) : Prop := ∀ k ∈ own r, k ∈ own r0 ∨ w.heap.size ≤ k
theorem OwnLe.refl (w : World) (r : Value) : OwnLe w r r := fun _ h => .inl h
theorem OwnLe.of {w : World} {r0 r : Value} (h : r.ownBlock = r0.ownBlock ∨ ∀ k ∈ own r, w.heap.size ≤ k) : OwnLe w r0 r := by
  intro k hk
  rcases h with e | e
  · left
    simp only [own] at hk ⊢
    rw [← e]
    exact hk
  · exact .inr (e k hk)
theorem OwnLe.trans {w w1 : World} {r0 r1 r2 : Value} (h : OwnLe w r0 r1) (k : OwnLe w1 r1 r2) (hw : w.heap.size ≤ w1.heap.size) : OwnLe w r0 r2 := by
  intro i hi
  rcases k i hi with e | e
  · exact h i e
  · exact .inr (by omega)

/-- What a continuation leaves of the child that it is given. -/
def ContP (W : World) (base c : Nat) (vc : Bv) (ys : List Int) (N : Nat) (o : Res) (e : Ending) (w' : World) : Prop :=
  Only (c :: own vc.res) W w' ∧ (match o with
   | .good cs => e = .returned (.tuple #[]) ∧ ∃ r, Bld w' c { vc with res := r } ∧ Row w' base r (ys ++ cs) ∧ OwnLe W vc.res r
   | .err => e = .returned (.tuple #[]) ∧ ∃ T u vc', Bld w' c vc' ∧ vc'.err = .iface T u ∧ vc'.child = .pointer none
   | .pan => (∃ T u, e = .panicked [panE T u]) ∧ Pend (fun k => k ∈ own vc.res ∨ W.heap.size ≤ k) w' base N c vc ys)
/-- What steps leave of the builder. -/
def DoneP (w : World) (base b : Nat) (v : Bv) (ys : List Int) (ins : Bool) (N : Nat) (o : Res) (e : Ending) (w' : World) : Prop :=
  Only (LL ins b v) w w' ∧ (match o with
   | .good zs => e = .returned (.tuple #[]) ∧ ∃ r i, Bld w' b { v with res := r, inc := i } ∧ Row w' base r (ys ++ zs) ∧ OwnLe w v.res r ∧ Ready w' i ins ∧ (ins = true → i = v.inc) ∧ (∀ k ∈ incI i, k ∈ incI v.inc ∨ w.heap.size ≤ k)
   | .err => e = .returned (.tuple #[]) ∧ ∃ T u v', Bld w' b v' ∧ v'.err = .iface T u ∧ v'.child = .pointer none
   | .pan => ins = true ∧ (∃ T u, e = .panicked [panE T u]) ∧ Pend (fun k => k ∈ own v.res ∨ w.heap.size ≤ k) w' base N b v ys)
/-- A function value that is a continuation: it builds o, or errs, or panics; K: how long it may grow. -/
def ContOKP (w : World) (base : Nat) (L : List Nat) (F : FuncId) (cap : Array Value) (K : Nat) (o : Res) : Prop :=
  ∀ W c vc zs bi, Only L w W → w.heap.size ≤ c → Bld W c vc → vc.err = .nilIface → vc.child = .pointer none → vc.fixed = false → Row W base vc.res zs → zs.length + K ≤ 2000000000 → base ≤ W.heap.size →
    vc.inc = .pointer (some ⟨bi, 0, none⟩) → Var W bi 4 (.bool true) → (∀ k ∈ own vc.res, k ∈ L ∨ w.heap.size ≤ k) → (0 ≤ vc.off ∧ 0 ≤ vc.pll ∧ vc.off + vc.pll = zs.length) → Calls Try.prog F (#[.pointer (some ⟨c, 0, none⟩)] ++ cap) W (ContP W base c vc zs (zs.length + K) o)
/-- What a length prefix makes of what stands behind it. -/
def lpRes (asn : Bool) (m : Nat) (ins : Bool) : Res → Res
  | .good cs => match fl asn m cs.length with
    | some hs => .good (hs ++ cs)
    | none => .err
  | .err => .err
  | .pan => if ins then .pan else .err
/-- The flush's end as the length prefix needs it. -/
def EndP (w : World) (base b : Nat) (v : Bv) (ys : List Int) (ins : Bool) (N : Nat) (o : Res) (e : Ending) (w' : World) : Prop :=
  e = .returned (.tuple #[]) ∧ (∃ v8, Bld w' b v8 ∧ v8.child = .pointer none) ∧ DoneP w base b v ys ins N o e w'

theorem own_u8 {w : World} {base : Nat} {r : Value} {xs : List Int} (h : Row w base r xs) : ∀ k ∈ own r, ∃ cs fr, w.heap[k]? = some (.cells cs 5 fr) := by
  intro k hk
  rcases h.2.2 with ⟨e, _⟩ | ⟨g, cap, cur, e, _, hg, _⟩
  · rw [e] at hk; simp [own, Value.ownBlock] at hk
  · rw [e] at hk
    simp only [own, Value.ownBlock, Option.toList_some, List.mem_singleton] at hk
    subst hk
    exact ⟨_, _, hg⟩
theorem fl_good {w w5 : World} {base b c bi m N : Nat} {v : Bv} {r1 r' : Value} {ys cs : List Int} {asn ins : Bool} (hch : v.child = .pointer none) (hf : v.fixed = false)
    (hb : Bld w5 b { v with res := r1, child := .pointer (some ⟨c, 0, none⟩), inc := .pointer (some ⟨bi, 0, none⟩) }) (hbc : b < c) (hc : Bld w5 c ⟨.nilIface, r', false, .pointer none, (ys.length : Nat), m, asn, .pointer (some ⟨bi, 0, none⟩)⟩)
    (hr : Row w5 base r' (ys ++ List.replicate m 0 ++ cs)) (hown : OwnLe w v.res r') (hwc : w.heap.size ≤ c) (ho : Only (LL ins b v) w w5) (hv : Var w5 bi 4 (.bool ins)) (hins : ins = true → v.inc = .pointer (some ⟨bi, 0, none⟩))
    (hbi : bi ∈ incI v.inc ∨ w.heap.size ≤ bi) (hbase : base ≤ w.heap.size) (hm1 : 1 ≤ m) (hm4 : m ≤ 4) (ham : asn = true → m = 1) (hlen : ys.length + cs.length ≤ 2147483640) :
    Calls Try.prog 70 #[.pointer (some ⟨b, 0, none⟩)] w5 (EndP w base b v ys ins N (lpRes asn m ins (.good cs))) := by
  have hbne : b ≠ c := by omega
  have hbib : bi ≠ b := by
    rintro rfl
    have := hv.symm.trans hb
    simp at this
  have hbic : bi ≠ c := by
    rintro rfl
    have := hv.symm.trans hc
    simp at this
  have hbir : bi ∉ own r' := hr.ne hv (by decide)
  refine (flush_core (S := fun W => w5 = W) (Q := fun w' => Flushed w5 base b c _ ys cs r' (fl asn m cs.length) w') b c _ w5 hb rfl (flush_none c _ w5 hc rfl)
    (fun W hW => by subst hW; exact .inl ⟨base, ys, cs, asn, m, .pointer (some ⟨bi, 0, none⟩), r', _, hb, rfl, hf, hbne, ⟨hc, hr⟩, hm1, hm4, ham, hlen, Nat.le_trans hbase ho.size, fun w' h1 => h1⟩)).mono ?_
  rintro e w8 ⟨rfl, ho8, hm8⟩
  have hO : Only (LL ins b v) w w8 := ho.then ho8 (by
    intro k hk hlt
    simp only [List.mem_cons] at hk
    rcases hk with rfl | rfl | hk
    · simp [LL]
    · omega
    · rcases hown k hk with h | h
      · simp [LL, h]
      · omega)
  have hv8 : Var w8 bi 4 (.bool ins) := hv.only ho8 (by simp only [List.mem_cons, not_or]; exact ⟨hbib, hbic, hbir⟩)
  cases hfl : fl asn m cs.length with
  | none =>
    rw [hfl] at hm8
    obtain ⟨T, u, hb8⟩ := hm8
    refine ⟨rfl, ⟨_, hb8, rfl⟩, hO, ?_⟩
    simp only [lpRes, hfl]
    exact ⟨trivial, T, u, _, hb8, rfl, rfl⟩
  | some hs =>
    rw [hfl] at hm8
    obtain ⟨r8, hb8, hr8, hown8⟩ := hm8
    refine ⟨rfl, ⟨_, hb8, rfl⟩, hO, ?_⟩
    simp only [lpRes, hfl]
    refine ⟨trivial, r8, .pointer (some ⟨bi, 0, none⟩), ?_, ?_, ?_, ?_, ?_, ?_⟩
    · rw [show ({ v with res := r8, inc := .pointer (some ⟨bi, 0, none⟩) } : Bv) = { v with res := r8, child := .pointer none, inc := .pointer (some ⟨bi, 0, none⟩) } by rw [← hch]]
      exact hb8
    · rw [← List.append_assoc]
      exact hr8
    · exact hown.trans (OwnLe.of hown8) ho.size
    · exact .inr ⟨bi, rfl, hv8⟩
    · intro hi
      exact (hins hi).symm
    · intro k hk
      simp only [incI, List.mem_singleton] at hk
      subst hk
      exact hbi
theorem fl_err {w w5 : World} {base b c N : Nat} {v v5 vc : Bv} {ys : List Int} {ins : Bool} {T : TypeId} {u : Value} (hb : Bld w5 b v5) (hc5 : v5.child = .pointer (some ⟨c, 0, none⟩)) (hbc : b < c) (hc : Bld w5 c vc) (hce : vc.err = .iface T u) (hcc : vc.child = .pointer none)
    (ho : Only (LL ins b v) w w5) : Calls Try.prog 70 #[.pointer (some ⟨b, 0, none⟩)] w5 (EndP w base b v ys ins N .err) := by
  have hbne : b ≠ c := by omega
  refine (flush_core (S := fun W => w5 = W) (Q := fun w' => Only [b] w5 w' ∧ Bld w' b { v5 with child := .pointer none, err := .iface T u }) b c _ w5 hb hc5 (flush_none c vc w5 hc hcc)
    (fun W hW => .inr ⟨_, vc, T, u, hW ▸ hb, hc5, hbne, hW ▸ hc, hce, fun w' h1 h2 => ⟨hW ▸ h1, h2⟩⟩)).mono ?_
  rintro e w8 ⟨rfl, ho8, hb8⟩
  refine ⟨rfl, ⟨_, hb8, rfl⟩, ho.then ho8 (fun i hi _ => by simp at hi; simp [LL, hi]), rfl, T, u, _, hb8, rfl, rfl⟩
theorem fl_pan {w w5 : World} {base b c N M : Nat} {v v5 : Bv} {ys zs : List Int} {m : Nat} {asn : Bool} {i r : Value} {T : TypeId} {u : Value} {ok : Nat → Prop} (hb : Bld w5 b v5) (hc5 : v5.child = .pointer (some ⟨c, 0, none⟩)) (he5 : v5.err = .iface T u) (hf5 : v5.fixed = false) (hbc : b < c) (hwc : w.heap.size ≤ c)
    (hp : Pend ok w5 base M c ⟨.nilIface, r, false, .pointer none, (zs.length : Nat), m, asn, i⟩ (zs ++ List.replicate m 0)) (hok : ∀ k, ok k → k ∈ own v.res ∨ w.heap.size ≤ k) (hok2 : ∀ k, w5.heap.size ≤ k → ok k) (hM : M ≤ 2147483640) (hbase : base ≤ w.heap.size) (hm1 : 1 ≤ m) (hm4 : m ≤ 4) (ham : asn = true → m = 1)
    (ho : Only (LL false b v) w w5) : Calls Try.prog 70 #[.pointer (some ⟨b, 0, none⟩)] w5 (EndP w base b v ys false N .err) := by
  have hbne : b ≠ c := by omega
  have hb5 := Nat.le_trans hbase ho.size
  refine (flush_core (S := fun w1 => Flat ok w1 base M c ⟨.nilIface, r, false, .pointer none, (zs.length : Nat), m, asn, i⟩ (zs ++ List.replicate m 0) ∧ Fr ok w5 c w1)
    (Q := fun w8 => Only (LL false b v) w w8 ∧ ∃ T u v8, Bld w8 b v8 ∧ v8.err = .iface T u ∧ v8.child = .pointer none) b c _ w5 hb hc5 (flush_pend hok2 hb5 hp rfl hM) ?_).mono ?_
  · rintro w1 ⟨⟨vc, hc1, hcc, hor⟩, hfr⟩
    have hb1 := hfr.bld hb hbc
    have ho1 : Only (LL false b v) w w1 := by
      obtain ⟨l, hol, hl⟩ := hfr
      refine ho.then hol ?_
      intro k hk hlt
      rcases hl k hk with rfl | ⟨ha, _⟩
      · omega
      · rcases hok k ha with h | h
        · simp [LL, h]
        · omega
    rcases hor with ⟨T', u', hce⟩ | ⟨hlk, hce, cs', hrow, hown, hlen⟩
    · right
      refine ⟨v5, vc, T', u', hb1, hc5, hbne, hc1, hce, ?_⟩
      intro w' ho' hb'
      exact ⟨ho1.then ho' (fun k hk _ => by simp at hk; simp [LL, hk]), T', u', _, hb', rfl, rfl⟩
    · left
      have hkid : Kid w1 base c asn m zs cs' i vc.res := by
        refine ⟨?_, hrow⟩
        have := hlk.eq hce hcc
        rw [this] at hc1
        exact hc1
      refine ⟨base, zs, cs', asn, m, i, vc.res, v5, hb1, hc5, hf5, hbne, hkid, hm1, hm4, ham, ?_, by have := ho1.size; omega, ?_⟩
      · simp only [List.length_append, List.length_replicate] at hlen ⊢
        omega
      · rintro w' ⟨ho', hm'⟩
        refine ⟨ho1.then ho' ?_, ?_⟩
        · intro k hk hlt
          simp only [List.mem_cons] at hk
          rcases hk with rfl | rfl | hk
          · simp [LL]
          · omega
          · rcases hok k (hown k hk) with h | h
            · simp [LL, h]
            · omega
        · cases hfl : fl asn m cs'.length with
          | none =>
            rw [hfl] at hm'
            obtain ⟨T', u', hb'⟩ := hm'
            exact ⟨T', u', _, hb', rfl, rfl⟩
          | some hs =>
            rw [hfl] at hm'
            obtain ⟨r', hb', _⟩ := hm'
            exact ⟨T, u, _, hb', he5, rfl⟩
  · rintro e w8 ⟨rfl, ho8, T', u', v8, hb8, he8, hc8⟩
    exact ⟨rfl, ⟨v8, hb8, hc8⟩, ho8, rfl, T', u', v8, hb8, he8, hc8⟩
end Go.Proofs.Ytndnglpehghmeaa

/-! ### addLengthPrefixed, whatever came before: contract. -/
namespace Go.Proofs.Ytndnglpehghmeaa
open Go.RowKit

theorem ContP.retpan {W : World} {base c N : Nat} {vc : Bv} {ys : List Int} {o : Res} {e : Ending} {w' : World} (h : ContP W base c vc ys N o e w') : RetPan e := by
  cases o with
  | good cs => exact .inl h.2.1
  | err => exact .inl h.2.1
  | pan => exact .inr h.2.1

/-- Behind the making of the child: the continuation's call and the flush. -/
theorem lp_core {w w3 : World} {base b c bi m K N : Nat} {v : Bv} {r1 : Value} {ys : List Int} {asn ins : Bool} {F : FuncId} {cap : Array Value} {o : Res} (hF : ∀ args W, (callFunc F args).run Try.prog W = .ok (.enter F args) W)
    (he : v.err = .nilIface) (hch : v.child = .pointer none) (hf : v.fixed = false) (hb : Bld w3 b { v with res := r1, child := .pointer (some ⟨c, 0, none⟩), inc := .pointer (some ⟨bi, 0, none⟩) }) (hbc : b < c)
    (hc : Bld w3 c ⟨.nilIface, r1, false, .pointer none, (ys.length : Nat), m, asn, .pointer (some ⟨bi, 0, none⟩)⟩) (hr : Row w3 base r1 (ys ++ List.replicate m 0)) (hown : OwnLe w v.res r1) (hwc : w.heap.size ≤ c) (ho : Only (LL ins b v) w w3) (hv : Var w3 bi 4 (.bool ins))
    (hins : ins = true → v.inc = .pointer (some ⟨bi, 0, none⟩)) (hbi : bi ∈ incI v.inc ∨ w.heap.size ≤ bi) (hbase : base ≤ w.heap.size) (hm1 : 1 ≤ m) (hm4 : m ≤ 4) (ham : asn = true → m = 1) (hlen : ys.length + K ≤ 1999999990) (hN : ys.length + K + 9 ≤ N) (hlo : ∀ cs, o = .good cs → cs.length ≤ K)
    (hcont : ContOKP w base (LL ins b v) F cap K o) :
    Calls Try.prog 69 #[.pointer (some ⟨b, 0, none⟩), .func (.func F) #[] cap, .pointer (some ⟨c, 0, none⟩)] w3 fun e w5 =>
      (e = .returned (.tuple #[]) ∧ Calls Try.prog 70 #[.pointer (some ⟨b, 0, none⟩)] w5 (EndP w base b v ys ins N (lpRes asn m ins o))) ∨
      ((∃ T u, e = .panicked [panE T u]) ∧ DoneP w base b v ys ins N (lpRes asn m ins o) e w5) := by
  have hbib : bi ≠ b := by
    rintro rfl
    have := hv.symm.trans hb
    simp at this
  have hbic : bi ≠ c := by
    rintro rfl
    have := hv.symm.trans hc
    simp at this
  have hbir : bi ∉ own r1 := hr.ne hv (by decide)
  have hbr : b ∉ own r1 := hr.ne hb (by decide)
  have hzl : (ys ++ List.replicate m (0 : Int)).length = ys.length + m := by simp
  cases ins with
  | false =>
    obtain ⟨w4, hw4⟩ : ∃ w4, (w3.setCell ⟨bi, 0, none⟩ (.bool true)).alloc (.cells #[.pointer (some ⟨b, 0, none⟩)] 32) = w4 := ⟨_, rfl⟩
    have hc4 := (hc.far (p := ⟨bi, 0, none⟩) (Ne.symm hbic) (.bool true)).alloc (.cells #[.pointer (some ⟨b, 0, none⟩)] 32)
    have hb4 := (hb.far (p := ⟨bi, 0, none⟩) (Ne.symm hbib) (.bool true)).alloc (.cells #[.pointer (some ⟨b, 0, none⟩)] 32)
    have hv4 := (hv.set (.bool true)).alloc (.cells #[.pointer (some ⟨b, 0, none⟩)] 32)
    have hp4 := Var.new (w3.setCell ⟨bi, 0, none⟩ (.bool true)) 32 (.pointer (some ⟨b, 0, none⟩))
    rw [show (w3.setCell ⟨bi, 0, none⟩ (.bool true)).heap.size = w3.heap.size by simp] at hp4
    have hr4 := (Row.only (l := [bi]) hr ((Only.refl _ _).setCell (p := ⟨bi, 0, none⟩) (.inl (by simp)) (.bool true)) (by simpa using hbir)).alloc (.cells #[.pointer (some ⟨b, 0, none⟩)] 32)
    have ho4 : Only (LL false b v) w ((w3.setCell ⟨bi, 0, none⟩ (.bool true)).alloc (.cells #[.pointer (some ⟨b, 0, none⟩)] 32)) := (ho.setCell (p := ⟨bi, 0, none⟩) (by rcases hbi with h | h; exact .inl (by simp [LL, h]); exact .inr h) _).alloc _
    rw [hw4] at hc4 hb4 hv4 hp4 hr4 ho4
    have hpc : w3.heap.size ≠ c := fun e => by have := hc.lt; omega
    have hsz4 := ho4.size
    have CC := hcont w4 c _ _ bi ho4 hwc hc4 rfl rfl rfl hr4 (by rw [hzl]; omega) (by omega) rfl hv4 (fun k hk => by rcases hown k hk with h | h; exact .inl (by simp [LL, h]); exact .inr h) ⟨by simp, by simp, by rw [hzl]; simp⟩
    refine (BcallCont_top2 (R := ContP w4 base c ⟨.nilIface, r1, false, .pointer none, (ys.length : Nat), m, asn, .pointer (some ⟨bi, 0, none⟩)⟩ (ys ++ List.replicate m 0) ((ys ++ List.replicate m (0 : Int)).length + K) o) b c bi F cap _ w3 hF hb rfl hv (by rw [hw4]; exact CC) ?_).mono ?_
    · intro e w' h
      have hoc := h.1
      refine ⟨h.retpan, hp4.only hoc ?_, ⟨_, hb4.only hoc ?_, rfl⟩, true, hv4.only hoc ?_⟩
      · simp only [List.mem_cons, not_or]
        exact ⟨hpc, hr4.ne hp4 (by decide)⟩
      · simp only [List.mem_cons, not_or]
        exact ⟨by omega, hbr⟩
      · simp only [List.mem_cons, not_or]
        exact ⟨hbic, hbir⟩
    · rintro e w5 ⟨rfl, e1, w6, ⟨hoc, hm⟩, hor⟩
      left
      refine ⟨rfl, ?_⟩
      have hb6 := hb4.only hoc (by simp only [List.mem_cons, not_or]; exact ⟨by omega, hbr⟩)
      have hv6 := hv4.only hoc (by simp only [List.mem_cons, not_or]; exact ⟨hbic, hbir⟩)
      have ho6 : Only (LL false b v) w w6 := ho4.then hoc (by
        intro k hk hlt
        rcases List.mem_cons.1 hk with rfl | hk
        · omega
        · rcases hown k hk with h | h
          · simp [LL, h]
          · omega)
      have ho7 : Only (LL false b v) w (w6.setCell ⟨bi, 0, none⟩ (.bool false)) := ho6.setCell (p := ⟨bi, 0, none⟩) (by rcases hbi with h | h; exact .inl (by simp [LL, h]); exact .inr h) _
      have hb7 := hb6.far (p := ⟨bi, 0, none⟩) (Ne.symm hbib) (.bool false)
      cases o with
      | good cs =>
        obtain ⟨rfl, r', hc6, hr6, hown6⟩ := hm
        rcases hor with ⟨_, rfl⟩ | ⟨T, u, he1, _⟩
        · have hc7 := hc6.far (p := ⟨bi, 0, none⟩) (Ne.symm hbic) (.bool false)
          have hbir' : bi ∉ own r' := hr6.ne hv6 (by decide)
          have hr7 := Row.only (l := [bi]) hr6 ((Only.refl _ _).setCell (p := ⟨bi, 0, none⟩) (.inl (by simp)) (.bool false)) (by simpa using hbir')
          exact fl_good hch hf hb7 hbc hc7 hr7 (hown.trans hown6 ho4.size) hwc ho7 (hv6.set _) hins hbi hbase hm1 hm4 ham (by have := hlo cs rfl; omega)
        · cases he1
      | err =>
        obtain ⟨rfl, T, u, vc', hc6, hce, hcc⟩ := hm
        rcases hor with ⟨_, rfl⟩ | ⟨T, u, he1, _⟩
        · exact fl_err hb7 rfl hbc (hc6.far (p := ⟨bi, 0, none⟩) (Ne.symm hbic) (.bool false)) hce hcc ho7
        · cases he1
      | pan =>
        obtain ⟨⟨T, u, rfl⟩, hp⟩ := hm
        rcases hor with ⟨he1, _⟩ | ⟨T', u', _, hw5⟩
        · cases he1
        · have hol : Only [bi, b] w6 w5 := by
            rw [hw5]
            exact (((Only.refl _ _).setCell (p := ⟨bi, 0, none⟩) (.inl (by simp)) _).alloc _).setCell (p := ⟨b, 0, none⟩) (.inl (by simp)) _
          have hp5 := Pend.only hol hp (by
            intro k hk
            simp only [List.mem_cons, List.not_mem_nil, or_false] at hk
            rcases hk with rfl | rfl
            · exact ⟨_, _, _, hv6, by decide, .inr (by decide)⟩
            · exact ⟨_, _, _, hb6, by decide, .inl hbc⟩)
          have hb5 := (hb7.alloc (.cells #[.iface T' u'] 82)).set0 (.iface T' u')
          rw [← hw5] at hb5
          have ho5 : Only (LL false b v) w w5 := by
            rw [hw5]
            exact (ho7.alloc _).setCell (p := ⟨b, 0, none⟩) (.inl (by simp [LL])) _
          have hsz5 := hol.size
          have hsz6 := ho6.size
          have hs64 := hoc.size
          exact fl_pan hb5 rfl rfl hf hbc hwc hp5 (fun k hk => by
            rcases hk with hk | hk
            · exact hown k hk
            · exact .inr (by omega)) (fun k hk => .inr (by omega)) (by rw [hzl]; omega) hbase hm1 hm4 ham ho5
  | true =>
    obtain ⟨w4, hw4⟩ : ∃ w4, w3.alloc (.cells #[.pointer (some ⟨b, 0, none⟩)] 32) = w4 := ⟨_, rfl⟩
    have hc4 := hc.alloc (.cells #[.pointer (some ⟨b, 0, none⟩)] 32)
    have hb4 := hb.alloc (.cells #[.pointer (some ⟨b, 0, none⟩)] 32)
    have hv4 := hv.alloc (.cells #[.pointer (some ⟨b, 0, none⟩)] 32)
    have hr4 := hr.alloc (.cells #[.pointer (some ⟨b, 0, none⟩)] 32)
    have ho4 : Only (LL true b v) w (w3.alloc (.cells #[.pointer (some ⟨b, 0, none⟩)] 32)) := ho.alloc _
    rw [hw4] at hc4 hb4 hv4 hr4 ho4
    have hsz4 := ho4.size
    have CC := hcont w4 c _ _ bi ho4 hwc hc4 rfl rfl rfl hr4 (by rw [hzl]; omega) (by omega) rfl hv4 (fun k hk => by rcases hown k hk with h | h; exact .inl (by simp [LL, h]); exact .inr h) ⟨by simp, by simp, by rw [hzl]; simp⟩
    refine (BcallCont_in (R := ContP w4 base c ⟨.nilIface, r1, false, .pointer none, (ys.length : Nat), m, asn, .pointer (some ⟨bi, 0, none⟩)⟩ (ys ++ List.replicate m 0) ((ys ++ List.replicate m (0 : Int)).length + K) o) b c bi F cap _ w3 hF hb rfl hv (by rw [hw4]; exact CC) (fun e w' h => h.retpan)).mono ?_
    rintro e w5 ⟨hoc, hm⟩
    have hb6 := hb4.only hoc (by simp only [List.mem_cons, not_or]; exact ⟨by omega, hbr⟩)
    have hv6 := hv4.only hoc (by simp only [List.mem_cons, not_or]; exact ⟨hbic, hbir⟩)
    have ho6 : Only (LL true b v) w w5 := ho4.then hoc (by
      intro k hk hlt
      rcases List.mem_cons.1 hk with rfl | hk
      · omega
      · rcases hown k hk with h | h
        · simp [LL, h]
        · omega)
    cases o with
    | good cs =>
      obtain ⟨rfl, r', hc6, hr6, hown6⟩ := hm
      left
      exact ⟨rfl, fl_good hch hf hb6 hbc hc6 hr6 (hown.trans hown6 ho4.size) hwc ho6 hv6 hins hbi hbase hm1 hm4 ham (by have := hlo cs rfl; omega)⟩
    | err =>
      obtain ⟨rfl, T, u, vc', hc6, hce, hcc⟩ := hm
      left
      exact ⟨rfl, fl_err hb6 rfl hbc hc6 hce hcc ho6⟩
    | pan =>
      obtain ⟨hpe, hp⟩ := hm
      right
      refine ⟨hpe, ho6, rfl, hpe, ?_⟩
      have hp1 : Pend (fun k => k ∈ own v.res ∨ w.heap.size ≤ k) w5 base (ys.length + m + K) c ⟨.nilIface, r1, false, .pointer none, ((ys ++ []).length : Nat), m, asn, .pointer (some ⟨bi, 0, none⟩)⟩ (ys ++ [] ++ List.replicate m 0) := by
        have := hp.ok_mono (ok' := fun k => k ∈ own v.res ∨ w.heap.size ≤ k) (fun k hk => by
          rcases hk with hk | hk
          · exact hown k hk
          · exact .inr (by omega))
        rw [hzl] at this
        simpa using this
      have hp2 : Pend (fun k => k ∈ own v.res ∨ w.heap.size ≤ k) w5 base (ys.length + m + K + 5) b v ys := Pend.node hb6 ⟨rfl, rfl, rfl, rfl, (hins rfl).symm⟩ he rfl hbc (.inr hwc) hm1 hm4 ham hp1
      exact hp2.more (by omega)
end Go.Proofs.Ytndnglpehghmeaa

/-! ### addLengthPrefixed, the length prefixes, AddASN1, whatever came before: contracts. -/
namespace Go.Proofs.Ytndnglpehghmeaa
open Go.RowKit

theorem BaddLP_nil (b : Nat) (v : Bv) (m : Nat) (asn : Bool) (F : FuncId) (cap : Array Value) (ys : List Int) (o : Res) (w : World) (base K N : Nat) (hF : ∀ args W, (callFunc F args).run Try.prog W = .ok (.enter F args) W)
    (h : Bld w b v) (he : v.err = .nilIface) (hch : v.child = .pointer none) (hf : v.fixed = false) (hinc : v.inc = .pointer none) (hr : Row w base v.res ys) (hb : base ≤ w.heap.size) (hm1 : 1 ≤ m) (hm4 : m ≤ 4) (ham : asn = true → m = 1)
    (hl : ys.length + K ≤ 1999999990) (hN : ys.length + K + 9 ≤ N) (hlo : ∀ cs, o = .good cs → cs.length ≤ K) (hcont : ContOKP w base (LL false b v) F cap K o) :
    Calls Try.prog 56 #[.pointer (some ⟨b, 0, none⟩), .int .i64 (m : Int), .bool asn, .func (.func F) #[] cap] w (DoneP w base b v ys false N (lpRes asn m false o)) := by
  obtain ⟨Ar, cr, hres, hrc, hrm, hrb⟩ := hr.form
  have b0 := h.c0
  have b1 := h.c1
  rw [he] at b0
  rw [hres] at b1
  have hmk := fun W => mk_run m hm1 hm4 W
  have HZ := Lib.hid (Badd_zeros b v ys m w base h he hch hf hr hb (by omega))
  have HC := Lib.hid hcont
  have HFF := Lib.hid hF
  have HV := Lib.hid (And.intro he (And.intro hch (And.intro hf (And.intro hinc hb))))
  have HM := Lib.hid (And.intro hm1 (And.intro hm4 ham))
  have HL := Lib.hid (And.intro hl (And.intro hN hlo))
  have HBV := Lib.hid h
  have hres' := Lib.hid hres
  clear hcont h he hch hf hinc hr hb hm1 hm4 ham hl hN hlo hrb hres hF hrc hrm
  go_enter Try.func56, Try.ntmps56
  go_wp2_with fail
  refine HZ.out.mono ?_
  rintro e w1 ⟨r1, rfl, hb1, hr1, ho1, hown1⟩
  obtain ⟨he, hch, hf, hinc, hbase⟩ := HV.out
  obtain ⟨A1, k1, rfl, hk1, hm1', _⟩ := hr1.form
  obtain ⟨L1, hL1⟩ : ∃ L1, (ys ++ List.replicate m (0 : Int)).length = L1 := ⟨_, rfl⟩
  rw [hL1] at hb1 hr1 hown1
  obtain ⟨r1, hr1e⟩ : ∃ r1, Value.slice A1 L1 k1 = r1 := ⟨_, rfl⟩
  rw [hr1e] at hb1 hr1 hown1
  clear hL1 hk1 hm1'
  have c7 := hb1.c7
  have cf7 := hb1.free 7
  rw [show ({ v with res := r1 } : Bv).inc = v.inc from rfl, hinc] at c7
  have hlt1 := hb1.lt
  have hltv := HBV.out.lt
  go_wp2_with fail
  have hb2 := (hb1.set7 (.pointer (some ⟨w1.heap.size, 0, none⟩))).alloc (.cells #[.bool false] 4)
  have hv2 : Var ((w1.setCell ⟨b, 7, none⟩ (.pointer (some ⟨w1.heap.size, 0, none⟩))).alloc (.cells #[.bool false] 4)) w1.heap.size 4 (.bool false) := by
    have := Var.new (w1.setCell ⟨b, 7, none⟩ (.pointer (some ⟨w1.heap.size, 0, none⟩))) 4 (.bool false)
    rwa [show (w1.setCell ⟨b, 7, none⟩ (.pointer (some ⟨w1.heap.size, 0, none⟩))).heap.size = w1.heap.size by simp] at this
  have hbr1 : b ∉ own r1 := hr1.ne hb1 (by decide)
  have hr2 : Row ((w1.setCell ⟨b, 7, none⟩ (.pointer (some ⟨w1.heap.size, 0, none⟩))).alloc (.cells #[.bool false] 4)) base r1 (ys ++ List.replicate m 0) := (Row.only (l := [b]) hr1 ((Only.refl _ _).setCell (.inl (by simp)) _) (by simpa using hbr1)).alloc _
  have ho2 : Only (LL false b v) w ((w1.setCell ⟨b, 7, none⟩ (.pointer (some ⟨w1.heap.size, 0, none⟩))).alloc (.cells #[.bool false] 4)) := ((ho1.more (fun k hk _ => LL.sub hk)).setCell (.inl (by simp [LL])) _).alloc _
  have hz2 : w1.heap.size ≤ ((w1.setCell ⟨b, 7, none⟩ (.pointer (some ⟨w1.heap.size, 0, none⟩))).alloc (.cells #[.bool false] 4)).heap.size := by simp
  have HBI : Hid ((w1.heap.size ∈ incI v.inc ∨ w.heap.size ≤ w1.heap.size) ∧ (false = true → v.inc = .pointer (some ⟨w1.heap.size, 0, none⟩))) := Lib.hid ⟨.inr ho1.size, fun e => by cases e⟩
  have HLT := Lib.hid hlt1
  obtain ⟨bi, hbi⟩ : ∃ bi, w1.heap.size = bi := ⟨_, rfl⟩
  rw [hbi] at hb2 hv2 hr2 ho2 hz2 HBI ⊢
  obtain ⟨w2, hw2⟩ : ∃ w2, (w1.setCell ⟨b, 7, none⟩ (.pointer (some ⟨bi, 0, none⟩))).alloc (.cells #[.bool false] 4) = w2 := ⟨_, rfl⟩
  rw [hw2] at hb2 hv2 hr2 ho2 hz2 ⊢
  subst hr1e
  have b1' := hb2.c1
  have b2' := hb2.c2
  have b7' := hb2.c7
  have bf3 := hb2.free 3
  have b3' := hb2.c3
  rw [show ({ ({ v with res := .slice A1 L1 k1 } : Bv) with inc := .pointer (some ⟨bi, 0, none⟩) } : Bv).fixed = v.fixed from rfl, hf] at b2'
  have n1 := World.new_ne w2 ⟨b, 1, none⟩ b1'
  have n2 := World.new_ne w2 ⟨b, 2, none⟩ b2'
  have n7 := World.new_ne w2 ⟨b, 7, none⟩ b7'
  have hltb : b < w2.heap.size := hb2.lt
  have HB2 := Lib.hid hb2
  have HV2 := Lib.hid hv2
  have HR2 := Lib.hid hr2
  have HO2 := Lib.hid ho2
  have HVV := Lib.hid (And.intro he (And.intro hch (And.intro hf (And.intro hinc hbase))))
  have HOW1 := Lib.hid (OwnLe.of hown1)
  clear hb2 hv2 hr2 ho2 hz2 hw2 he hch hf hinc hbase hb1 hr1 ho1 hown1 c7 cf7 hbr1 hbi HZ HV hmk hlt1
  go_region
  go_wp2_with fail
  have hbbi : bi ≠ b := by
    rintro rfl
    have := HV2.out.symm.trans HB2.out
    simp at this
  have hv3 := ((HV2.out.far (p := ⟨b, 3, none⟩) hbbi (.pointer (some ⟨w2.heap.size, 0, none⟩))).alloc (.cells #[.nilIface, .slice A1 L1 k1, .bool false, .pointer none, .int .i64 (ys.length : Int), .int .i64 (m : Int), .bool asn, .pointer (some ⟨bi, 0, none⟩)] 35)).drew
  have hb3 := ((HB2.out.set3 (.pointer (some ⟨w2.heap.size, 0, none⟩))).alloc (.cells #[.nilIface, .slice A1 L1 k1, .bool false, .pointer none, .int .i64 (ys.length : Int), .int .i64 (m : Int), .bool asn, .pointer (some ⟨bi, 0, none⟩)] 35)).drew
  have hc3 : Bld (((w2.setCell ⟨b, 3, none⟩ (.pointer (some ⟨w2.heap.size, 0, none⟩))).alloc (.cells #[.nilIface, .slice A1 L1 k1, .bool false, .pointer none, .int .i64 (ys.length : Int), .int .i64 (m : Int), .bool asn, .pointer (some ⟨bi, 0, none⟩)] 35)).drew) w2.heap.size ⟨.nilIface, .slice A1 L1 k1, false, .pointer none, ys.length, m, asn, .pointer (some ⟨bi, 0, none⟩)⟩ := by
    have := Bld.new (w2.setCell ⟨b, 3, none⟩ (.pointer (some ⟨w2.heap.size, 0, none⟩))) ⟨.nilIface, .slice A1 L1 k1, false, .pointer none, ys.length, m, asn, .pointer (some ⟨bi, 0, none⟩)⟩
    rw [show (w2.setCell ⟨b, 3, none⟩ (.pointer (some ⟨w2.heap.size, 0, none⟩))).heap.size = w2.heap.size by simp] at this
    exact this.drew
  have hbr2 : b ∉ own (.slice A1 L1 k1) := HR2.out.ne HB2.out (by decide)
  have hr3 : Row (((w2.setCell ⟨b, 3, none⟩ (.pointer (some ⟨w2.heap.size, 0, none⟩))).alloc (.cells #[.nilIface, .slice A1 L1 k1, .bool false, .pointer none, .int .i64 (ys.length : Int), .int .i64 (m : Int), .bool asn, .pointer (some ⟨bi, 0, none⟩)] 35)).drew) base (.slice A1 L1 k1) (ys ++ List.replicate m 0) := ((Row.only (l := [b]) HR2.out ((Only.refl _ _).setCell (.inl (by simp)) _) (by simpa using hbr2)).alloc _).drew
  have ho3 : Only (LL false b v) w (((w2.setCell ⟨b, 3, none⟩ (.pointer (some ⟨w2.heap.size, 0, none⟩))).alloc (.cells #[.nilIface, .slice A1 L1 k1, .bool false, .pointer none, .int .i64 (ys.length : Int), .int .i64 (m : Int), .bool asn, .pointer (some ⟨bi, 0, none⟩)] 35)).drew) := ((HO2.out.setCell (.inl (by simp [LL])) _).alloc _).drew
  have hwc := HO2.out.size
  obtain ⟨he, hch, hf, hinc, hbase⟩ := HVV.out
  obtain ⟨hm1, hm4, ham⟩ := HM.out
  obtain ⟨hl, hN, hlo⟩ := HL.out
  have LPC := Lib.hid (lp_core (N := N) HFF.out he hch hf hb3 hltb hc3 hr3 HOW1.out hwc ho3 hv3 HBI.out.2 HBI.out.1 hbase hm1 hm4 ham hl hN hlo HC.out)
  clear hv3 hb3 hc3 hr3 ho3 hwc he hch hf hinc hbase hm1 hm4 ham hl hN hlo hbr2 hbbi HB2 HV2 HR2 HO2 HVV HOW1 HC HM HL
  refine LPC.out.mono ?_
  rintro e w5 (⟨rfl, hfl⟩ | ⟨⟨T, u, rfl⟩, hd⟩)
  · have HFL := Lib.hid hfl
    clear hfl LPC
    go_wp2_with fail
    refine HFL.out.mono ?_
    rintro e w8 ⟨rfl, ⟨v8, hb8, hc8⟩, hd⟩
    have b3 := hb8.c3
    rw [hc8] at b3
    have HD := Lib.hid hd
    clear hb8 hc8 hd HFL
    go_wp2_with fail
    go_end0
    exact HD.out
  · exact ⟨rfl, hd⟩

theorem BaddLP_ptr (b : Nat) (v : Bv) (m : Nat) (asn : Bool) (F : FuncId) (cap : Array Value) (ys : List Int) (o : Res) (w : World) (base K N bi : Nat) (ins : Bool) (hF : ∀ args W, (callFunc F args).run Try.prog W = .ok (.enter F args) W)
    (h : Bld w b v) (he : v.err = .nilIface) (hch : v.child = .pointer none) (hf : v.fixed = false) (hinc : v.inc = .pointer (some ⟨bi, 0, none⟩)) (hvi : Var w bi 4 (.bool ins)) (hr : Row w base v.res ys) (hb : base ≤ w.heap.size) (hm1 : 1 ≤ m) (hm4 : m ≤ 4) (ham : asn = true → m = 1)
    (hl : ys.length + K ≤ 1999999990) (hN : ys.length + K + 9 ≤ N) (hlo : ∀ cs, o = .good cs → cs.length ≤ K) (hcont : ContOKP w base (LL ins b v) F cap K o) :
    Calls Try.prog 56 #[.pointer (some ⟨b, 0, none⟩), .int .i64 (m : Int), .bool asn, .func (.func F) #[] cap] w (DoneP w base b v ys ins N (lpRes asn m ins o)) := by
  obtain ⟨Ar, cr, hres, hrc, hrm, hrb⟩ := hr.form
  have b0 := h.c0
  have b1 := h.c1
  rw [he] at b0
  rw [hres] at b1
  have hmk := fun W => mk_run m hm1 hm4 W
  have HZ := Lib.hid (Badd_zeros b v ys m w base h he hch hf hr hb (by omega))
  have HC := Lib.hid hcont
  have HFF := Lib.hid hF
  have HV := Lib.hid (And.intro he (And.intro hch (And.intro hf (And.intro hinc hb))))
  have HM := Lib.hid (And.intro hm1 (And.intro hm4 ham))
  have HL := Lib.hid (And.intro hl (And.intro hN hlo))
  have HBV := Lib.hid h
  have HVV0 := Lib.hid hvi
  have HRV := Lib.hid hr
  have hres' := Lib.hid hres
  clear hcont h he hch hf hinc hr hb hm1 hm4 ham hl hN hlo hrb hres hF hrc hrm hvi
  go_enter Try.func56, Try.ntmps56
  go_wp2_with fail
  refine HZ.out.mono ?_
  rintro e w1 ⟨r1, rfl, hb1, hr1, ho1, hown1⟩
  obtain ⟨he, hch, hf, hinc, hbase⟩ := HV.out
  obtain ⟨A1, k1, rfl, hk1, hm1', _⟩ := hr1.form
  obtain ⟨L1, hL1⟩ : ∃ L1, (ys ++ List.replicate m (0 : Int)).length = L1 := ⟨_, rfl⟩
  rw [hL1] at hb1 hr1 hown1
  obtain ⟨r1, hr1e⟩ : ∃ r1, Value.slice A1 L1 k1 = r1 := ⟨_, rfl⟩
  rw [hr1e] at hb1 hr1 hown1
  clear hL1 hk1 hm1'
  have c7 := hb1.c7
  have cf7 := hb1.free 7
  rw [show ({ v with res := r1 } : Bv).inc = v.inc from rfl, hinc] at c7
  have hlt1 := hb1.lt
  have hltv := HBV.out.lt
  have hb2 : Bld w1 b { ({ v with res := r1 } : Bv) with inc := .pointer (some ⟨bi, 0, none⟩) } := by
    rw [show ({ ({ v with res := r1 } : Bv) with inc := .pointer (some ⟨bi, 0, none⟩) } : Bv) = { v with res := r1 } by rw [← hinc]]
    exact hb1
  have hv2 : Var w1 bi 4 (.bool ins) := HVV0.out.only ho1 (by
    simp only [List.mem_cons, not_or]
    refine ⟨?_, HRV.out.ne HVV0.out (by decide)⟩
    rintro rfl
    have := HVV0.out.symm.trans HBV.out
    simp at this)
  have hr2 := hr1
  have ho2 : Only (LL ins b v) w w1 := ho1.more (fun k hk _ => LL.sub hk)
  have HBI : Hid ((bi ∈ incI v.inc ∨ w.heap.size ≤ bi) ∧ (ins = true → v.inc = .pointer (some ⟨bi, 0, none⟩))) := Lib.hid ⟨.inl (by rw [hinc]; simp [incI]), fun _ => hinc⟩
  have HLT := Lib.hid hlt1
  obtain ⟨w2, hw2⟩ : ∃ w2, w1 = w2 := ⟨_, rfl⟩
  rw [hw2] at hb2 hv2 hr2 ho2 hb1 hr1 c7 ⊢
  have hbr1 : True := trivial
  have hbi : True := trivial
  have hz2 : True := trivial
  subst hr1e
  go_wp2_with fail
  have b1' := hb2.c1
  have b2' := hb2.c2
  have b7' := hb2.c7
  have bf3 := hb2.free 3
  have b3' := hb2.c3
  rw [show ({ ({ v with res := .slice A1 L1 k1 } : Bv) with inc := .pointer (some ⟨bi, 0, none⟩) } : Bv).fixed = v.fixed from rfl, hf] at b2'
  have n1 := World.new_ne w2 ⟨b, 1, none⟩ b1'
  have n2 := World.new_ne w2 ⟨b, 2, none⟩ b2'
  have n7 := World.new_ne w2 ⟨b, 7, none⟩ b7'
  have hltb : b < w2.heap.size := hb2.lt
  have HB2 := Lib.hid hb2
  have HV2 := Lib.hid hv2
  have HR2 := Lib.hid hr2
  have HO2 := Lib.hid ho2
  have HVV := Lib.hid (And.intro he (And.intro hch (And.intro hf (And.intro hinc hbase))))
  have HOW1 := Lib.hid (OwnLe.of hown1)
  clear hb2 hv2 hr2 ho2 hz2 hw2 he hch hf hinc hbase hb1 hr1 ho1 hown1 c7 cf7 hbr1 hbi HZ HV hmk hlt1
  go_region
  go_wp2_with fail
  have hbbi : bi ≠ b := by
    rintro rfl
    have := HV2.out.symm.trans HB2.out
    simp at this
  have hv3 := ((HV2.out.far (p := ⟨b, 3, none⟩) hbbi (.pointer (some ⟨w2.heap.size, 0, none⟩))).alloc (.cells #[.nilIface, .slice A1 L1 k1, .bool false, .pointer none, .int .i64 (ys.length : Int), .int .i64 (m : Int), .bool asn, .pointer (some ⟨bi, 0, none⟩)] 35)).drew
  have hb3 := ((HB2.out.set3 (.pointer (some ⟨w2.heap.size, 0, none⟩))).alloc (.cells #[.nilIface, .slice A1 L1 k1, .bool false, .pointer none, .int .i64 (ys.length : Int), .int .i64 (m : Int), .bool asn, .pointer (some ⟨bi, 0, none⟩)] 35)).drew
  have hc3 : Bld (((w2.setCell ⟨b, 3, none⟩ (.pointer (some ⟨w2.heap.size, 0, none⟩))).alloc (.cells #[.nilIface, .slice A1 L1 k1, .bool false, .pointer none, .int .i64 (ys.length : Int), .int .i64 (m : Int), .bool asn, .pointer (some ⟨bi, 0, none⟩)] 35)).drew) w2.heap.size ⟨.nilIface, .slice A1 L1 k1, false, .pointer none, ys.length, m, asn, .pointer (some ⟨bi, 0, none⟩)⟩ := by
    have := Bld.new (w2.setCell ⟨b, 3, none⟩ (.pointer (some ⟨w2.heap.size, 0, none⟩))) ⟨.nilIface, .slice A1 L1 k1, false, .pointer none, ys.length, m, asn, .pointer (some ⟨bi, 0, none⟩)⟩
    rw [show (w2.setCell ⟨b, 3, none⟩ (.pointer (some ⟨w2.heap.size, 0, none⟩))).heap.size = w2.heap.size by simp] at this
    exact this.drew
  have hbr2 : b ∉ own (.slice A1 L1 k1) := HR2.out.ne HB2.out (by decide)
  have hr3 : Row (((w2.setCell ⟨b, 3, none⟩ (.pointer (some ⟨w2.heap.size, 0, none⟩))).alloc (.cells #[.nilIface, .slice A1 L1 k1, .bool false, .pointer none, .int .i64 (ys.length : Int), .int .i64 (m : Int), .bool asn, .pointer (some ⟨bi, 0, none⟩)] 35)).drew) base (.slice A1 L1 k1) (ys ++ List.replicate m 0) := ((Row.only (l := [b]) HR2.out ((Only.refl _ _).setCell (.inl (by simp)) _) (by simpa using hbr2)).alloc _).drew
  have ho3 : Only (LL ins b v) w (((w2.setCell ⟨b, 3, none⟩ (.pointer (some ⟨w2.heap.size, 0, none⟩))).alloc (.cells #[.nilIface, .slice A1 L1 k1, .bool false, .pointer none, .int .i64 (ys.length : Int), .int .i64 (m : Int), .bool asn, .pointer (some ⟨bi, 0, none⟩)] 35)).drew) := ((HO2.out.setCell (.inl (by simp [LL])) _).alloc _).drew
  have hwc := HO2.out.size
  obtain ⟨he, hch, hf, hinc, hbase⟩ := HVV.out
  obtain ⟨hm1, hm4, ham⟩ := HM.out
  obtain ⟨hl, hN, hlo⟩ := HL.out
  have LPC := Lib.hid (lp_core (N := N) HFF.out he hch hf hb3 hltb hc3 hr3 HOW1.out hwc ho3 hv3 HBI.out.2 HBI.out.1 hbase hm1 hm4 ham hl hN hlo HC.out)
  clear hv3 hb3 hc3 hr3 ho3 hwc he hch hf hinc hbase hm1 hm4 ham hl hN hlo hbr2 hbbi HB2 HV2 HR2 HO2 HVV HOW1 HC HM HL
  refine LPC.out.mono ?_
  rintro e w5 (⟨rfl, hfl⟩ | ⟨⟨T, u, rfl⟩, hd⟩)
  · have HFL := Lib.hid hfl
    clear hfl LPC
    go_wp2_with fail
    refine HFL.out.mono ?_
    rintro e w8 ⟨rfl, ⟨v8, hb8, hc8⟩, hd⟩
    have b3 := hb8.c3
    rw [hc8] at b3
    have HD := Lib.hid hd
    clear hb8 hc8 hd HFL
    go_wp2_with fail
    go_end0
    exact HD.out
  · exact ⟨rfl, hd⟩

theorem BaddLP_gen (b : Nat) (v : Bv) (m : Nat) (asn : Bool) (F : FuncId) (cap : Array Value) (ys : List Int) (o : Res) (w : World) (base K N : Nat) (ins : Bool) (hF : ∀ args W, (callFunc F args).run Try.prog W = .ok (.enter F args) W)
    (h : Bld w b v) (he : v.err = .nilIface) (hch : v.child = .pointer none) (hf : v.fixed = false) (hrd : Ready w v.inc ins) (hr : Row w base v.res ys) (hb : base ≤ w.heap.size) (hm1 : 1 ≤ m) (hm4 : m ≤ 4) (ham : asn = true → m = 1)
    (hl : ys.length + K ≤ 1999999990) (hN : ys.length + K + 9 ≤ N) (hlo : ∀ cs, o = .good cs → cs.length ≤ K) (hcont : ContOKP w base (LL ins b v) F cap K o) :
    Calls Try.prog 56 #[.pointer (some ⟨b, 0, none⟩), .int .i64 (m : Int), .bool asn, .func (.func F) #[] cap] w (DoneP w base b v ys ins N (lpRes asn m ins o)) := by
  rcases hrd with ⟨rfl, hinc⟩ | ⟨bi, hinc, hvi⟩
  · exact BaddLP_nil b v m asn F cap ys o w base K N hF h he hch hf hinc hr hb hm1 hm4 ham hl hN hlo hcont
  · exact BaddLP_ptr b v m asn F cap ys o w base K N bi ins hF h he hch hf hinc hvi hr hb hm1 hm4 ham hl hN hlo hcont

end Go.Proofs.Ytndnglpehghmeaa
