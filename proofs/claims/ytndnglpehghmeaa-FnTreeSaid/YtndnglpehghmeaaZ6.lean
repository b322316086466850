/- The length prefixes, AddASN1, the elements, whatever came before: contracts. The elements, whatever came before: contracts. All that adds, at a builder that has an error; SetError; Unwrite: contracts. Steps of building as data: what they are, how memory holds them, what they come to. Steps at a builder: what is held. The reference's builder: the model. -/
import Derived.Test.YtndnglpehghmeaaZ5
import Derived.Test.YtndnglpehghmeaaZ1
/-! ### The length prefixes, AddASN1, the elements, whatever came before: contracts. -/
namespace Go.Proofs.Ytndnglpehghmeaa
open Go.RowKit

def Res.pre (xs : List Int) : Res → Res
  | .good cs => .good (xs ++ cs)
  | .err => .err
  | .pan => .pan
/-- Steps behind steps. -/
theorem DoneP.before {w w1 w' : World} {base b N : Nat} {v : Bv} {ys xs : List Int} {ins : Bool} {r i : Value} {o : Res} {e : Ending} (h : DoneP w1 base b { v with res := r, inc := i } (ys ++ xs) ins N o e w') (ho : Only (LL ins b v) w w1)
    (hr : OwnLe w v.res r) (hi : ∀ k ∈ incI i, k ∈ incI v.inc ∨ w.heap.size ≤ k) (hins : ins = true → i = v.inc) : DoneP w base b v ys ins N (o.pre xs) e w' := by
  obtain ⟨h1, h2⟩ := h
  have hsz := ho.size
  refine ⟨ho.then h1 ?_, ?_⟩
  · intro k hk hlt
    simp only [LL, List.mem_cons, List.mem_append] at hk
    rcases hk with rfl | hk | hk
    · simp [LL]
    · cases ins with
      | true => simp at hk
      | false =>
        simp only [Bool.false_eq_true, if_false] at hk
        rcases hi k hk with h | h
        · simp [LL, h]
        · omega
    · rcases hr k hk with h | h
      · simp [LL, h]
      · omega
  · cases o with
    | good cs =>
      obtain ⟨he, r', i', h3, h4, h5, h6, h7, h8⟩ := h2
      refine ⟨he, r', i', h3, by rw [← List.append_assoc]; exact h4, hr.trans h5 hsz, h6, fun e => (h7 e).trans (hins e), ?_⟩
      intro k hk
      rcases h8 k hk with h | h
      · exact hi k h
      · exact .inr (by omega)
    | err => exact h2
    | pan =>
      obtain ⟨h3, h4, h5⟩ := h2
      refine ⟨h3, h4, ?_⟩
      have h6 := (Pend.pre h5).ok_mono (ok' := fun k => k ∈ own v.res ∨ w.heap.size ≤ k) (fun k hk => by
        rcases hk with hk | hk
        · exact hr k hk
        · exact .inr (by omega))
      exact h6.like ⟨rfl, rfl, rfl, rfl, hins h3⟩
theorem ContOKP.later {w w1 : World} {base K : Nat} {b : Nat} {v : Bv} {r i : Value} {ins : Bool} {F : FuncId} {cap : Array Value} {o : Res} (h : ContOKP w base (LL ins b v) F cap K o) (ho : Only (LL ins b v) w w1)
    (hr : OwnLe w v.res r) (hi : ∀ k ∈ incI i, k ∈ incI v.inc ∨ w.heap.size ≤ k) : ContOKP w1 base (LL ins b { v with res := r, inc := i }) F cap K o := by
  have hsz := ho.size
  have hL : ∀ k ∈ LL ins b { v with res := r, inc := i }, k ∈ LL ins b v ∨ w.heap.size ≤ k := by
    intro k hk
    simp only [LL, List.mem_cons, List.mem_append] at hk
    rcases hk with rfl | hk | hk
    · simp [LL]
    · cases ins with
      | true => simp at hk
      | false =>
        simp only [Bool.false_eq_true, if_false] at hk
        rcases hi k hk with h | h
        · simp [LL, h]
        · exact .inr h
    · rcases hr k hk with h | h
      · simp [LL, h]
      · exact .inr h
  intro W c vc zs bi ho' hc h1 h2 h3 h4 h5 h6 h7 h8 h9 h10 h11
  refine h W c vc zs bi (ho.then ho' ?_) (by omega) h1 h2 h3 h4 h5 h6 h7 h8 h9 ?_ h11
  · intro k hk hlt
    rcases hL k hk with h | h
    · exact h
    · omega
  · intro k hk
    rcases h10 k hk with h | h
    · exact hL k h
    · exact .inr (by omega)
theorem Added.done {w w' : World} {base b N : Nat} {v : Bv} {ys xs : List Int} {ins : Bool} {e : Ending} (h : Added w base b v ys xs e w') (hr : Row w base v.res ys) (hb : Bld w b v) (hrd : Ready w v.inc ins) : DoneP w base b v ys ins N (.good xs) e w' := by
  obtain ⟨r, rfl, h1, h2, h3, h4⟩ := h
  refine ⟨h3.more (fun k hk _ => LL.sub hk), rfl, r, v.inc, h1, h2, OwnLe.of h4, ?_, fun _ => rfl, fun k hk => .inl hk⟩
  rcases hrd with h | ⟨bi, e, hv⟩
  · exact .inl h
  · refine .inr ⟨bi, e, hv.only h3 ?_⟩
    simp only [List.mem_cons, not_or]
    refine ⟨?_, hr.ne hv (by decide)⟩
    rintro rfl
    have := hv.symm.trans hb
    simp at this
theorem DoneP.of_alloc {w w' : World} {o : Obj} {base b N : Nat} {v : Bv} {ys : List Int} {ins : Bool} {x : Res} {e : Ending} (h : DoneP (w.alloc o) base b v ys ins N x e w') : DoneP w base b v ys ins N x e w' := by
  have := DoneP.before (w := w) (xs := []) (r := v.res) (i := v.inc) (by rw [List.append_nil]; exact h) ((Only.refl _ _).alloc _) (OwnLe.refl _ _) (fun k hk => .inl hk) (fun _ => rfl)
  cases x <;> exact this
theorem DoneP.ret {w w' : World} {base b N : Nat} {v : Bv} {ys : List Int} {ins : Bool} {x : Option (List Int)} {e : Ending} (h : DoneP w base b v ys ins N (ofO x) e w') : e = .returned (.tuple #[]) := by
  cases x with
  | none => exact h.2.1
  | some cs => exact h.2.1
theorem DoneP.pan_or {w w' : World} {base b N : Nat} {v : Bv} {ys : List Int} {ins : Bool} {x : Res} {e : Ending} (h : DoneP w base b v ys ins N x e w') : e = .returned (.tuple #[]) ∨ ∃ T u, e = .panicked [panE T u] := by
  cases x with
  | good cs => exact .inl h.2.1
  | err => exact .inl h.2.1
  | pan => exact .inr h.2.2.1
/-- An element of a tag, if the tag is one of one byte. -/
def elem (tag : Int) (xs : List Int) : Option (List Int) := if tag % 32 = 31 then none else some (wrapped tag xs)
/-- What an element's tag makes of its contents. -/
def asnRes (tag : Int) (ins : Bool) : Res → Res
  | .good cs => .good (wrapped tag cs)
  | .err => .err
  | .pan => if ins then .pan else .err
theorem and31_all : ∀ k : Nat, k < 256 → bits .and .u8 (k : Int) 31 = (k : Int) % 32 := by decide +kernel
theorem u8_and31 (x : Int) (h0 : 0 ≤ x) (h1 : x ≤ 255) : bits .and .u8 x 31 = x % 32 := by
  obtain ⟨k, rfl⟩ := Int.eq_ofNat_of_zero_le h0
  exact and31_all k (by omega)
theorem lp_asn (tag : Int) (ins : Bool) (o : Res) : (lpRes true 1 ins o).pre [tag] = asnRes tag ins o := by
  cases o with
  | good cs =>
    show Res.good ([tag] ++ (lenB cs.length ++ cs)) = Res.good (wrapped tag cs)
    unfold wrapped
    rw [hdr_lenB]
    rfl
  | err => rfl
  | pan => cases ins <;> rfl

theorem BAddLP8_gen (b : Nat) (v : Bv) (F : FuncId) (cap : Array Value) (ys : List Int) (o : Res) (w : World) (base K N : Nat) (ins : Bool) (hF : ∀ args W, (callFunc F args).run Try.prog W = .ok (.enter F args) W) (h : Bld w b v) (he : v.err = .nilIface) (hch : v.child = .pointer none) (hf : v.fixed = false) (hrd : Ready w v.inc ins) (hr : Row w base v.res ys) (hb : base ≤ w.heap.size)
    (hl : ys.length + K ≤ 1999999990) (hN : ys.length + K + 9 ≤ N) (hlo : ∀ cs, o = .good cs → cs.length ≤ K) (hcont : ContOKP w base (LL ins b v) F cap K o) :
    Calls Try.prog 35 #[.pointer (some ⟨b, 0, none⟩), .func (.func F) #[] cap] w (DoneP w base b v ys ins N (lpRes false 1 ins o)) := by
  have H := Lib.hid (BaddLP_gen b v 1 false F cap ys o w base K N ins hF h he hch hf hrd hr hb (by decide) (by decide) (by decide) hl hN hlo hcont)
  clear h he hch hf hrd hr hb hl hN hlo hcont hF
  go_enter Try.func35, Try.ntmps35
  go_wp2_with fail
  refine H.out.mono ?_
  intro e w' hd
  rcases hd.pan_or with rfl | ⟨T, u, rfl⟩
  · have HQ := Lib.hid hd
    clear hd H
    go_wp2_with fail
    go_end0
    exact HQ.out
  · exact ⟨rfl, hd⟩

theorem BAddLP16_gen (b : Nat) (v : Bv) (F : FuncId) (cap : Array Value) (ys : List Int) (o : Res) (w : World) (base K N : Nat) (ins : Bool) (hF : ∀ args W, (callFunc F args).run Try.prog W = .ok (.enter F args) W) (h : Bld w b v) (he : v.err = .nilIface) (hch : v.child = .pointer none) (hf : v.fixed = false) (hrd : Ready w v.inc ins) (hr : Row w base v.res ys) (hb : base ≤ w.heap.size)
    (hl : ys.length + K ≤ 1999999990) (hN : ys.length + K + 9 ≤ N) (hlo : ∀ cs, o = .good cs → cs.length ≤ K) (hcont : ContOKP w base (LL ins b v) F cap K o) :
    Calls Try.prog 37 #[.pointer (some ⟨b, 0, none⟩), .func (.func F) #[] cap] w (DoneP w base b v ys ins N (lpRes false 2 ins o)) := by
  have H := Lib.hid (BaddLP_gen b v 2 false F cap ys o w base K N ins hF h he hch hf hrd hr hb (by decide) (by decide) (by decide) hl hN hlo hcont)
  clear h he hch hf hrd hr hb hl hN hlo hcont hF
  go_enter Try.func37, Try.ntmps37
  go_wp2_with fail
  refine H.out.mono ?_
  intro e w' hd
  rcases hd.pan_or with rfl | ⟨T, u, rfl⟩
  · have HQ := Lib.hid hd
    clear hd H
    go_wp2_with fail
    go_end0
    exact HQ.out
  · exact ⟨rfl, hd⟩

theorem BAddLP24_gen (b : Nat) (v : Bv) (F : FuncId) (cap : Array Value) (ys : List Int) (o : Res) (w : World) (base K N : Nat) (ins : Bool) (hF : ∀ args W, (callFunc F args).run Try.prog W = .ok (.enter F args) W) (h : Bld w b v) (he : v.err = .nilIface) (hch : v.child = .pointer none) (hf : v.fixed = false) (hrd : Ready w v.inc ins) (hr : Row w base v.res ys) (hb : base ≤ w.heap.size)
    (hl : ys.length + K ≤ 1999999990) (hN : ys.length + K + 9 ≤ N) (hlo : ∀ cs, o = .good cs → cs.length ≤ K) (hcont : ContOKP w base (LL ins b v) F cap K o) :
    Calls Try.prog 38 #[.pointer (some ⟨b, 0, none⟩), .func (.func F) #[] cap] w (DoneP w base b v ys ins N (lpRes false 3 ins o)) := by
  have H := Lib.hid (BaddLP_gen b v 3 false F cap ys o w base K N ins hF h he hch hf hrd hr hb (by decide) (by decide) (by decide) hl hN hlo hcont)
  clear h he hch hf hrd hr hb hl hN hlo hcont hF
  go_enter Try.func38, Try.ntmps38
  go_wp2_with fail
  refine H.out.mono ?_
  intro e w' hd
  rcases hd.pan_or with rfl | ⟨T, u, rfl⟩
  · have HQ := Lib.hid hd
    clear hd H
    go_wp2_with fail
    go_end0
    exact HQ.out
  · exact ⟨rfl, hd⟩

theorem BAddLP32_gen (b : Nat) (v : Bv) (F : FuncId) (cap : Array Value) (ys : List Int) (o : Res) (w : World) (base K N : Nat) (ins : Bool) (hF : ∀ args W, (callFunc F args).run Try.prog W = .ok (.enter F args) W) (h : Bld w b v) (he : v.err = .nilIface) (hch : v.child = .pointer none) (hf : v.fixed = false) (hrd : Ready w v.inc ins) (hr : Row w base v.res ys) (hb : base ≤ w.heap.size)
    (hl : ys.length + K ≤ 1999999990) (hN : ys.length + K + 9 ≤ N) (hlo : ∀ cs, o = .good cs → cs.length ≤ K) (hcont : ContOKP w base (LL ins b v) F cap K o) :
    Calls Try.prog 39 #[.pointer (some ⟨b, 0, none⟩), .func (.func F) #[] cap] w (DoneP w base b v ys ins N (lpRes false 4 ins o)) := by
  have H := Lib.hid (BaddLP_gen b v 4 false F cap ys o w base K N ins hF h he hch hf hrd hr hb (by decide) (by decide) (by decide) hl hN hlo hcont)
  clear h he hch hf hrd hr hb hl hN hlo hcont hF
  go_enter Try.func39, Try.ntmps39
  go_wp2_with fail
  refine H.out.mono ?_
  intro e w' hd
  rcases hd.pan_or with rfl | ⟨T, u, rfl⟩
  · have HQ := Lib.hid hd
    clear hd H
    go_wp2_with fail
    go_end0
    exact HQ.out
  · exact ⟨rfl, hd⟩

theorem BAddASN1_gen (b : Nat) (v : Bv) (tag : Int) (F : FuncId) (cap : Array Value) (ys : List Int) (o : Res) (w : World) (base K N : Nat) (ins : Bool) (ht : 0 ≤ tag ∧ tag ≤ 255) (hF : ∀ args W, (callFunc F args).run Try.prog W = .ok (.enter F args) W) (h : Bld w b v) (he : v.err = .nilIface) (hch : v.child = .pointer none) (hf : v.fixed = false) (hrd : Ready w v.inc ins) (hr : Row w base v.res ys) (hb : base ≤ w.heap.size)
    (hl : ys.length + K ≤ 1999999985) (hN : ys.length + K + 10 ≤ N) (hlo : ∀ cs, o = .good cs → cs.length ≤ K) (hcont : ContOKP w base (LL ins b v) F cap K o) :
    Calls Try.prog 40 #[.pointer (some ⟨b, 0, none⟩), .int .u8 tag, .func (.func F) #[] cap] w (DoneP w base b v ys ins N (if tag % 32 = 31 then .err else asnRes tag ins o)) := by
  have b0 := h.c0
  rw [he] at b0
  have hand := u8_and31 tag ht.1 ht.2
  by_cases h31 : tag % 32 = 31
  · rw [if_pos h31]
    rw [h31] at hand
    have bf0 := h.free 0
    have hlt := h.lt
    have HE := Lib.hid (fun s => (show DoneP w base b v ys ins N .err (.returned (.tuple #[])) ((w.setCell ⟨b, 0, none⟩ (.iface 92 (.pointer (some ⟨w.heap.size, 0, none⟩)))).alloc (.cells #[.string s] 94)) from ⟨((Only.refl _ _).setCell (.inl (by simp [LL])) _).alloc _, rfl, 92, .pointer (some ⟨w.heap.size, 0, none⟩), _, (h.set0 _).alloc _, rfl, hch⟩))
    clear h he hch hf hrd hr hb hl hN hlo hcont ht h31 hF
    go_enter Try.func40, Try.ntmps40
    go_wp2_with fail
    refine (errorsNew_any _ _).mono ?_
    rintro e w' ⟨rfl, rfl⟩
    go_wp2_with fail
    refine bodyPost_ret (results_none rfl _ _ _) rfl ?_
    exact HE.out _
  · rw [if_neg h31]
    have H := Lib.hid (BAddUint8_any b v tag ys w base h he hch hf hr hb (by omega) ht.1 ht.2)
    have hne : (bits .and .u8 tag 31 == 31) = false := beq_eq_false_iff_ne.2 (by rw [hand]; exact h31)
    have HF := Lib.hid hF
    have HC := Lib.hid hcont
    have HV := Lib.hid (And.intro he (And.intro hch (And.intro hf (And.intro hb (And.intro hl (And.intro hlo (And.intro ht hN)))))))
    have HRD := Lib.hid (And.intro h (And.intro hr hrd))
    clear h he hch hf hrd hr hb hl hN hlo hcont ht h31 hF hand
    go_enter Try.func40, Try.ntmps40
    go_wp2_with fail
    refine H.out.mono ?_
    intro e w1 hadd
    have hdone := Added.done (N := N) hadd HRD.out.2.1 HRD.out.1 HRD.out.2.2
    obtain ⟨r1, rfl, hb1, hr1, ho1, hown1⟩ := hadd
    obtain ⟨he, hch, hf, hb, hl, hlo, ht, hN⟩ := HV.out
    have hrd1 : Ready w1 v.inc ins := by
      obtain ⟨_, _, r, i, hb1', _, _, hrdy, hi, _⟩ := hdone
      have : i = v.inc := by
        have e1 := hb1'.symm.trans hb1
        simp only [Option.some.injEq, Obj.cells.injEq, Bv.cells] at e1
        simp at e1
        exact e1.2
      rw [← this]
      exact hrdy
    have hbig : bigB tag 1 = [tag] := by rw [bigB_one, Int.emod_eq_of_lt ht.1 (by omega)]
    rw [hbig] at hr1
    have ho1' : Only (LL ins b v) w w1 := ho1.more (fun k hk _ => LL.sub hk)
    have H2 := Lib.hid (BaddLP_gen b { v with res := r1 } 1 true F cap (ys ++ [tag]) o w1 base K N ins HF.out hb1 he hch hf hrd1 hr1 (by have := ho1.size; omega) (by decide) (by decide) (fun _ => rfl) (by simp; omega) (by simp; omega) hlo (HC.out.later (i := v.inc) ho1' (OwnLe.of hown1) (fun k hk => .inl hk)))
    have HB := Lib.hid (And.intro ho1' (OwnLe.of hown1))
    clear hb1 hr1 ho1 hown1 he hch hf hb hl hlo ht hbig hN hdone hrd1 ho1' H HC HV HF HRD
    go_wp2_with fail
    refine H2.out.mono ?_
    intro e w2 hd
    have hd2 := DoneP.before (v := v) (i := v.inc) hd HB.out.1 HB.out.2 (fun k hk => .inl hk) (fun _ => rfl)
    rw [lp_asn] at hd2
    rcases hd2.pan_or with rfl | ⟨T, u, rfl⟩
    · have HD := Lib.hid hd2
      clear hd hd2
      go_wp2_with fail
      go_end0
      exact HD.out
    · exact ⟨rfl, hd2⟩

/-- An element whose contents a continuation makes that does not panic. -/
theorem BAddASN1_el (b : Nat) (v : Bv) (tag : Int) (F : FuncId) (cap : Array Value) (ys : List Int) (o : Option (List Int)) (w : World) (base K N : Nat) (ins : Bool) (ht : 0 ≤ tag ∧ tag ≤ 255) (hF : ∀ args W, (callFunc F args).run Try.prog W = .ok (.enter F args) W) (h : Bld w b v) (he : v.err = .nilIface) (hch : v.child = .pointer none) (hf : v.fixed = false) (hrd : Ready w v.inc ins) (hr : Row w base v.res ys) (hb : base ≤ w.heap.size)
    (hl : ys.length + K ≤ 1999999985) (hN : ys.length + K + 10 ≤ N) (hlo : ∀ cs, o = some cs → cs.length ≤ K) (hcont : ContOKP w base (LL ins b v) F cap K (ofO o)) :
    Calls Try.prog 40 #[.pointer (some ⟨b, 0, none⟩), .int .u8 tag, .func (.func F) #[] cap] w (DoneP w base b v ys ins N (ofO (o.bind (elem tag)))) := by
  refine (BAddASN1_gen b v tag F cap ys (ofO o) w base K N ins ht hF h he hch hf hrd hr hb hl hN (fun cs hc => hlo cs (by cases o with | none => cases hc | some c => simpa [ofO] using hc)) hcont).mono ?_
  intro e w' hd
  have : (if tag % 32 = 31 then Res.err else asnRes tag ins (ofO o)) = ofO (o.bind (elem tag)) := by
    cases o with
    | none => simp [ofO, asnRes]
    | some cs =>
      simp only [ofO, asnRes, elem, Option.bind_some]
      split <;> rfl
  rw [this] at hd
  exact hd
end Go.Proofs.Ytndnglpehghmeaa

/-! ### The elements, whatever came before: contracts. -/
namespace Go.Proofs.Ytndnglpehghmeaa
open Go.RowKit

theorem LL.lt {w : World} {base b : Nat} {v : Bv} {ins : Bool} {ys : List Int} (h : Bld w b v) (hrd : Ready w v.inc ins) (hr : Row w base v.res ys) : ∀ k ∈ LL ins b v, k < w.heap.size := by
  intro k hk
  simp only [LL, List.mem_cons, List.mem_append] at hk
  rcases hk with rfl | hk | hk
  · exact h.lt
  · cases ins with
    | true => simp at hk
    | false =>
      simp only [Bool.false_eq_true, if_false] at hk
      rcases hrd with ⟨_, e⟩ | ⟨bi, e, hv⟩
      · rw [e] at hk; simp [incI] at hk
      · rw [e] at hk
        simp only [incI, List.mem_singleton] at hk
        subst hk
        exact hv.lt
  · exact own_lt hr.2 k hk
theorem Ready.alloc {w : World} {i : Value} {ins : Bool} (h : Ready w i ins) (o : Obj) : Ready (w.alloc o) i ins := by
  rcases h with h | ⟨bi, e, hv⟩
  · exact .inl h
  · exact .inr ⟨bi, e, hv.alloc o⟩
theorem fresh_gen {w : World} {base b : Nat} {v : Bv} {ins : Bool} {ys : List Int} (h : Bld w b v) (hrd : Ready w v.inc ins) (hr : Row w base v.res ys) (val : Value) (T : TypeId) : ∀ W, Only (LL ins b v) (w.alloc (.cells #[val] T)) W → Var W w.heap.size T val := by
  intro W ho
  refine (Var.new w T val).only ho fun hm => ?_
  have := LL.lt h hrd hr _ hm
  omega

theorem SignedP_gen (b : Nat) (v : Bv) (tag x : Int) (ys : List Int) (w : World) (base N : Nat) (ins : Bool) (h : Bld w b v) (he : v.err = .nilIface) (hch : v.child = .pointer none) (hf : v.fixed = false) (hrd : Ready w v.inc ins) (hr : Row w base v.res ys) (hb : base ≤ w.heap.size)
    (hl : ys.length + 8 ≤ 1999999985) (hN : ys.length + 8 + 10 ≤ N) (ht : 0 ≤ tag ∧ tag ≤ 255) (h0 : -9223372036854775808 ≤ x) (h1 : x ≤ 9223372036854775807) :
    Calls Try.prog 59 #[.pointer (some ⟨b, 0, none⟩), .int .u8 tag, .int .i64 x] w (DoneP w base b v ys ins N (ofO (elem tag (octs x)))) := by
  have hL := (iL_is x h0 h1).1
  have H := Lib.hid (BAddASN1_el b v tag 71 #[.pointer (some ⟨w.heap.size, 0, none⟩)] ys (some (octs x)) (w.alloc (.cells #[.int .i64 x] 2)) base 8 N ins ht (fun _ _ => rfl) (h.alloc _) he hch hf (hrd.alloc _) (hr.alloc _) (by simp; omega) hl hN (fun cs hc => by obtain rfl := Option.some.inj hc; rw [octs_len]; omega)
    (signed_cont w.heap.size x _ base _ 8 h0 h1 (fresh_gen h hrd hr _ _)))
  clear h he hch hf hrd hr hb hl hN ht h0 h1 hL
  have hmf : ∀ (fn : Fn) (first cap : Array Value) (w : World), (Instr.makeFunc fn first cap).run Try.prog w = .ok (.func fn first cap) w := fun _ _ _ _ => rfl
  go_enter Try.func59, Try.ntmps59
  go_wp2_with fail
  refine H.out.mono ?_
  intro e w' hd
  have hd2 : DoneP w base b v ys ins N (ofO (elem tag (octs x))) e w' := DoneP.of_alloc hd
  obtain rfl := hd2.ret
  have HQ := Lib.hid hd2
  clear hd2 H hd
  go_wp2_with fail
  go_end0
  exact HQ.out

theorem Int64P_gen (b : Nat) (v : Bv) (x : Int) (ys : List Int) (w : World) (base N : Nat) (ins : Bool) (h : Bld w b v) (he : v.err = .nilIface) (hch : v.child = .pointer none) (hf : v.fixed = false) (hrd : Ready w v.inc ins) (hr : Row w base v.res ys) (hb : base ≤ w.heap.size)
    (hl : ys.length + 8 ≤ 1999999985) (hN : ys.length + 8 + 10 ≤ N) (h0 : -9223372036854775808 ≤ x) (h1 : x ≤ 9223372036854775807) :
    Calls Try.prog 42 #[.pointer (some ⟨b, 0, none⟩), .int .i64 x] w (DoneP w base b v ys ins N (ofO (elem 2 (octs x)))) := by
  have H := Lib.hid (SignedP_gen b v 2 x ys w base N ins h he hch hf hrd hr hb hl hN (by decide) h0 h1)
  clear h he hch hf hrd hr hb hl hN h0 h1
  go_enter Try.func42, Try.ntmps42
  go_wp2_with fail
  refine H.out.mono ?_
  intro e w' hd2
  obtain rfl := hd2.ret
  have HQ := Lib.hid hd2
  clear hd2 H
  go_wp2_with fail
  go_end0
  exact HQ.out

theorem WithTagP_gen (b : Nat) (v : Bv) (tag x : Int) (ys : List Int) (w : World) (base N : Nat) (ins : Bool) (h : Bld w b v) (he : v.err = .nilIface) (hch : v.child = .pointer none) (hf : v.fixed = false) (hrd : Ready w v.inc ins) (hr : Row w base v.res ys) (hb : base ≤ w.heap.size)
    (hl : ys.length + 8 ≤ 1999999985) (hN : ys.length + 8 + 10 ≤ N) (ht : 0 ≤ tag ∧ tag ≤ 255) (h0 : -9223372036854775808 ≤ x) (h1 : x ≤ 9223372036854775807) :
    Calls Try.prog 43 #[.pointer (some ⟨b, 0, none⟩), .int .i64 x, .int .u8 tag] w (DoneP w base b v ys ins N (ofO (elem tag (octs x)))) := by
  have H := Lib.hid (SignedP_gen b v tag x ys w base N ins h he hch hf hrd hr hb hl hN ht h0 h1)
  clear h he hch hf hrd hr hb hl hN h0 h1 ht
  go_enter Try.func43, Try.ntmps43
  go_wp2_with fail
  refine H.out.mono ?_
  intro e w' hd2
  obtain rfl := hd2.ret
  have HQ := Lib.hid hd2
  clear hd2 H
  go_wp2_with fail
  go_end0
  exact HQ.out

theorem EnumP_gen (b : Nat) (v : Bv) (x : Int) (ys : List Int) (w : World) (base N : Nat) (ins : Bool) (h : Bld w b v) (he : v.err = .nilIface) (hch : v.child = .pointer none) (hf : v.fixed = false) (hrd : Ready w v.inc ins) (hr : Row w base v.res ys) (hb : base ≤ w.heap.size)
    (hl : ys.length + 8 ≤ 1999999985) (hN : ys.length + 8 + 10 ≤ N) (h0 : -9223372036854775808 ≤ x) (h1 : x ≤ 9223372036854775807) :
    Calls Try.prog 45 #[.pointer (some ⟨b, 0, none⟩), .int .i64 x] w (DoneP w base b v ys ins N (ofO (elem 10 (octs x)))) := by
  have H := Lib.hid (SignedP_gen b v 10 x ys w base N ins h he hch hf hrd hr hb hl hN (by decide) h0 h1)
  clear h he hch hf hrd hr hb hl hN h0 h1
  go_enter Try.func45, Try.ntmps45
  go_wp2_with fail
  refine H.out.mono ?_
  intro e w' hd2
  obtain rfl := hd2.ret
  have HQ := Lib.hid hd2
  clear hd2 H
  go_wp2_with fail
  go_end0
  exact HQ.out

theorem UintP_gen (b : Nat) (v : Bv) (x : Int) (ys : List Int) (w : World) (base N : Nat) (ins : Bool) (h : Bld w b v) (he : v.err = .nilIface) (hch : v.child = .pointer none) (hf : v.fixed = false) (hrd : Ready w v.inc ins) (hr : Row w base v.res ys) (hb : base ≤ w.heap.size)
    (hl : ys.length + 9 ≤ 1999999985) (hN : ys.length + 9 + 10 ≤ N) (h0 : 0 ≤ x) (h1 : x ≤ 18446744073709551615) :
    Calls Try.prog 44 #[.pointer (some ⟨b, 0, none⟩), .int .u64 x] w (DoneP w base b v ys ins N (ofO (elem 2 (uocts x)))) := by
  have hL := (uL_is x h0 h1).1
  have H := Lib.hid (BAddASN1_el b v 2 60 #[.pointer (some ⟨w.heap.size, 0, none⟩)] ys (some (uocts x)) (w.alloc (.cells #[.int .u64 x] 66)) base 9 N ins (by decide) (fun _ _ => rfl) (h.alloc _) he hch hf (hrd.alloc _) (hr.alloc _) (by simp; omega) hl hN (fun cs hc => by obtain rfl := Option.some.inj hc; rw [uocts_len]; omega)
    (unsigned_cont w.heap.size x _ base _ 9 h0 h1 (fresh_gen h hrd hr _ _)))
  clear h he hch hf hrd hr hb hl hN h0 h1 hL
  have hmf : ∀ (fn : Fn) (first cap : Array Value) (w : World), (Instr.makeFunc fn first cap).run Try.prog w = .ok (.func fn first cap) w := fun _ _ _ _ => rfl
  go_enter Try.func44, Try.ntmps44
  go_wp2_with fail
  refine H.out.mono ?_
  intro e w' hd
  have hd2 : DoneP w base b v ys ins N (ofO (elem 2 (uocts x))) e w' := DoneP.of_alloc hd
  obtain rfl := hd2.ret
  have HQ := Lib.hid hd2
  clear hd2 H hd
  go_wp2_with fail
  go_end0
  exact HQ.out

theorem BoolP_gen (b : Nat) (v : Bv) (x : Bool) (ys : List Int) (w : World) (base N : Nat) (ins : Bool) (h : Bld w b v) (he : v.err = .nilIface) (hch : v.child = .pointer none) (hf : v.fixed = false) (hrd : Ready w v.inc ins) (hr : Row w base v.res ys) (hb : base ≤ w.heap.size)
    (hl : ys.length + 1 ≤ 1999999985) (hN : ys.length + 1 + 10 ≤ N) :
    Calls Try.prog 41 #[.pointer (some ⟨b, 0, none⟩), .bool x] w (DoneP w base b v ys ins N (ofO (elem 1 ([if x then 255 else 0])))) := by
  have H := Lib.hid (BAddASN1_el b v 1 58 #[.pointer (some ⟨w.heap.size, 0, none⟩)] ys (some ([if x then 255 else 0])) (w.alloc (.cells #[.bool x] 4)) base 1 N ins (by decide) (fun _ _ => rfl) (h.alloc _) he hch hf (hrd.alloc _) (hr.alloc _) (by simp; omega) hl hN (fun cs hc => by obtain rfl := Option.some.inj hc; simp)
    (bool_cont w.heap.size x _ base _ 1 (fresh_gen h hrd hr _ _)))
  clear h he hch hf hrd hr hb hl hN
  have hmf : ∀ (fn : Fn) (first cap : Array Value) (w : World), (Instr.makeFunc fn first cap).run Try.prog w = .ok (.func fn first cap) w := fun _ _ _ _ => rfl
  cases x with
  | true =>
    go_enter Try.func41, Try.ntmps41
    go_wp2_with fail
    refine H.out.mono ?_
    intro e w' hd
    have hd2 : DoneP w base b v ys ins N (ofO (elem 1 ([if true then 255 else 0]))) e w' := DoneP.of_alloc hd
    obtain rfl := hd2.ret
    have HQ := Lib.hid hd2
    clear hd2 H hd
    go_wp2_with fail
    go_end0
    exact HQ.out
  | false =>
    go_enter Try.func41, Try.ntmps41
    go_wp2_with fail
    refine H.out.mono ?_
    intro e w' hd
    have hd2 : DoneP w base b v ys ins N (ofO (elem 1 ([if false then 255 else 0]))) e w' := DoneP.of_alloc hd
    obtain rfl := hd2.ret
    have HQ := Lib.hid hd2
    clear hd2 H hd
    go_wp2_with fail
    go_end0
    exact HQ.out

theorem OctetP_gen (b : Nat) (v : Bv) (A : Option Addr) (c : Nat) (xs : List Int) (bd : Nat) (ys : List Int) (w : World) (base N : Nat) (ins : Bool) (h : Bld w b v) (he : v.err = .nilIface) (hch : v.child = .pointer none) (hf : v.fixed = false) (hrd : Ready w v.inc ins) (hr : Row w base v.res ys) (hb : base ≤ w.heap.size)
    (hl : ys.length + xs.length ≤ 1999999985) (hN : ys.length + xs.length + 10 ≤ N) (hx : Row w bd (.slice A xs.length c) xs) (hL : ∀ k ∈ LL ins b v, k < bd) (hxl : xs.length ≤ 4194304) :
    Calls Try.prog 47 #[.pointer (some ⟨b, 0, none⟩), .slice A xs.length c] w (DoneP w base b v ys ins N (ofO (elem 4 (xs)))) := by
  have H := Lib.hid (BAddASN1_el b v 4 61 #[.pointer (some ⟨w.heap.size, 0, none⟩)] ys (some (xs)) (w.alloc (.cells #[.slice A xs.length c] 24)) base xs.length N ins (by decide) (fun _ _ => rfl) (h.alloc _) he hch hf (hrd.alloc _) (hr.alloc _) (by simp; omega) hl hN (fun cs hc => by obtain rfl := Option.some.inj hc; exact Nat.le_refl _)
    (octet_cont w.heap.size A c xs _ base _ xs.length (fun W ho => ⟨fresh_gen h hrd hr _ _ W ho, ((hx.alloc _).only ho (fun k hk hm => by have h1 := hL k hk; have h2 := hx.low k hm; omega)).rd rfl⟩) hxl))
  clear h he hch hf hrd hr hb hl hN hx hL hxl
  have hmf : ∀ (fn : Fn) (first cap : Array Value) (w : World), (Instr.makeFunc fn first cap).run Try.prog w = .ok (.func fn first cap) w := fun _ _ _ _ => rfl
  go_enter Try.func47, Try.ntmps47
  go_wp2_with fail
  refine H.out.mono ?_
  intro e w' hd
  have hd2 : DoneP w base b v ys ins N (ofO (elem 4 (xs))) e w' := DoneP.of_alloc hd
  obtain rfl := hd2.ret
  have HQ := Lib.hid hd2
  clear hd2 H hd
  go_wp2_with fail
  go_end0
  exact HQ.out

theorem BitsP_gen (b : Nat) (v : Bv) (A : Option Addr) (c : Nat) (xs : List Int) (bd : Nat) (ys : List Int) (w : World) (base N : Nat) (ins : Bool) (h : Bld w b v) (he : v.err = .nilIface) (hch : v.child = .pointer none) (hf : v.fixed = false) (hrd : Ready w v.inc ins) (hr : Row w base v.res ys) (hb : base ≤ w.heap.size)
    (hl : ys.length + (xs.length + 1) ≤ 1999999985) (hN : ys.length + (xs.length + 1) + 10 ≤ N) (hx : Row w bd (.slice A xs.length c) xs) (hL : ∀ k ∈ LL ins b v, k < bd) (hxl : xs.length ≤ 4194304) :
    Calls Try.prog 48 #[.pointer (some ⟨b, 0, none⟩), .slice A xs.length c] w (DoneP w base b v ys ins N (ofO (elem 3 (0 :: xs)))) := by
  have H := Lib.hid (BAddASN1_el b v 3 62 #[.pointer (some ⟨w.heap.size, 0, none⟩)] ys (some (0 :: xs)) (w.alloc (.cells #[.slice A xs.length c] 24)) base (xs.length + 1) N ins (by decide) (fun _ _ => rfl) (h.alloc _) he hch hf (hrd.alloc _) (hr.alloc _) (by simp; omega) hl hN (fun cs hc => by obtain rfl := Option.some.inj hc; simp)
    (bits_cont w.heap.size A c xs _ base _ (xs.length + 1) bd (fun W ho => ⟨fresh_gen h hrd hr _ _ W ho, (hx.alloc _).only ho (fun k hk hm => by have h1 := hL k hk; have h2 := hx.low k hm; omega)⟩) hL (fun k hk => by have := own_lt hx.2 k hk; simp; omega) hxl))
  clear h he hch hf hrd hr hb hl hN hx hL hxl
  have hmf : ∀ (fn : Fn) (first cap : Array Value) (w : World), (Instr.makeFunc fn first cap).run Try.prog w = .ok (.func fn first cap) w := fun _ _ _ _ => rfl
  go_enter Try.func48, Try.ntmps48
  go_wp2_with fail
  refine H.out.mono ?_
  intro e w' hd
  have hd2 : DoneP w base b v ys ins N (ofO (elem 3 (0 :: xs))) e w' := DoneP.of_alloc hd
  obtain rfl := hd2.ret
  have HQ := Lib.hid hd2
  clear hd2 H hd
  go_wp2_with fail
  go_end0
  exact HQ.out

theorem OidP_gen (b : Nat) (v : Bv) (A : Option Addr) (c : Nat) (xs : List Int) (bd : Nat) (ys : List Int) (w : World) (base N : Nat) (ins : Bool) (h : Bld w b v) (he : v.err = .nilIface) (hch : v.child = .pointer none) (hf : v.fixed = false) (hrd : Ready w v.inc ins) (hr : Row w base v.res ys) (hb : base ≤ w.heap.size)
    (hl : ys.length + (5 * xs.length) ≤ 1999999985) (hN : ys.length + (5 * xs.length) + 10 ≤ N) (hx : RowI w bd (.slice A xs.length c) xs) (hL : ∀ k ∈ LL ins b v, k < bd) (hxl : xs.length ≤ 4194304) (hm : ∀ v ∈ xs, v ≤ 2147483647) :
    Calls Try.prog 49 #[.pointer (some ⟨b, 0, none⟩), .slice A xs.length c] w (DoneP w base b v ys ins N (ofO ((oidCs xs).bind (elem 6)))) := by
  have H := Lib.hid (BAddASN1_el b v 6 63 #[.pointer (some ⟨w.heap.size, 0, none⟩)] ys (oidCs xs) (w.alloc (.cells #[.slice A xs.length c] 77)) base (5 * xs.length) N ins (by decide) (fun _ _ => rfl) (h.alloc _) he hch hf (hrd.alloc _) (hr.alloc _) (by simp; omega) hl hN (fun cs hc => by have := oidCs_len hc; omega)
    (oid_cont w.heap.size _ xs _ base bd _ (5 * xs.length) (fun W ho => ⟨fresh_gen h hrd hr _ _ W ho, (hx.only (l := []) ((Only.refl _ _).alloc _) (by simp)).only ho (fun k hk hm => by have h1 := hL k hk; have h2 := hx.low k hm; omega)⟩) hxl hm))
  clear h he hch hf hrd hr hb hl hN hx hL hxl hm
  have hmf : ∀ (fn : Fn) (first cap : Array Value) (w : World), (Instr.makeFunc fn first cap).run Try.prog w = .ok (.func fn first cap) w := fun _ _ _ _ => rfl
  go_enter Try.func49, Try.ntmps49
  go_wp2_with fail
  refine H.out.mono ?_
  intro e w' hd
  have hd2 : DoneP w base b v ys ins N (ofO ((oidCs xs).bind (elem 6))) e w' := DoneP.of_alloc hd
  obtain rfl := hd2.ret
  have HQ := Lib.hid hd2
  clear hd2 H hd
  go_wp2_with fail
  go_end0
  exact HQ.out

theorem NullP_gen (b : Nat) (v : Bv) (ys : List Int) (w : World) (base N : Nat) (ins : Bool) (h : Bld w b v) (he : v.err = .nilIface) (hch : v.child = .pointer none) (hf : v.fixed = false) (hrd : Ready w v.inc ins) (hr : Row w base v.res ys) (hb : base ≤ w.heap.size)
    (hl : ys.length ≤ 1999999985) :
    Calls Try.prog 46 #[.pointer (some ⟨b, 0, none⟩)] w (DoneP w base b v ys ins N (ofO (elem 5 []))) := by
  have H := Lib.hid (Calls.mono (R' := fun e w' => DoneP w base b v ys ins N (ofO (elem 5 [])) e w') (Badd_lit b v ys [5, 0] w base h he hch hf hr hb (by intro y hy; simp at hy; omega) (by simp; omega)) (fun e w' hq => Added.done (N := N) (ins := ins) hq hr h hrd))
  clear h he hch hf hrd hr hb hl
  go_enter Try.func46, Try.ntmps46
  go_wp2_with fail
  refine H.out.mono ?_
  intro e w' hd2
  obtain rfl := hd2.ret
  have HQ := Lib.hid hd2
  clear hd2 H
  go_wp2_with fail
  go_end0
  exact HQ.out

end Go.Proofs.Ytndnglpehghmeaa

/-! ### All that adds, at a builder that has an error; SetError; Unwrite: contracts. -/
namespace Go.Proofs.Ytndnglpehghmeaa
open Go.RowKit

/-- Nothing is done. -/
def Idle (w : World) (e : Ending) (w' : World) : Prop := e = .returned (.tuple #[]) ∧ Only [] w w'
/-- A builder that has an error. -/
def Erred (w : World) (b : Nat) : Prop := ∃ v T u, Bld w b v ∧ v.err = .iface T u ∧ v.child = .pointer none
theorem Erred.only {w w' : World} {b : Nat} (h : Erred w b) (ho : Only [] w w') : Erred w' b := by
  obtain ⟨v, T, u, h1, h2⟩ := h
  exact ⟨v, T, u, h1.only ho (by simp), h2⟩
theorem Erred.alloc {w : World} {b : Nat} (h : Erred w b) (o : Obj) : Erred (w.alloc o) b := h.only ((Only.refl _ _).alloc o)
theorem Erred.cell {w : World} {b : Nat} (h : Erred w b) : ∃ T u, w.cell? ⟨b, 0, none⟩ = some (.iface T u) := by
  obtain ⟨v, T, u, h1, h2, _⟩ := h
  exact ⟨T, u, by have := h1.c0; rwa [h2] at this⟩

theorem add_err (b : Nat) (A : Option Addr) (n c : Nat) (w : World) (h : Erred w b) : Calls Try.prog 55 #[.pointer (some ⟨b, 0, none⟩), .slice A n c] w (Idle w) := by
  obtain ⟨T, u, hc⟩ := h.cell
  clear h
  go_enter Try.func55, Try.ntmps55
  go_wp2_with fail
  refine bodyPost_ret (results_none rfl _ _ _) rfl ?_
  exact ⟨rfl, Only.refl _ _⟩

theorem lp_err (b : Nat) (m : Int) (asn : Bool) (F : FuncId) (cap : Array Value) (w : World) (h : Erred w b) : Calls Try.prog 56 #[.pointer (some ⟨b, 0, none⟩), .int .i64 m, .bool asn, .func (.func F) #[] cap] w (Idle w) := by
  obtain ⟨T, u, hc⟩ := h.cell
  clear h
  go_enter Try.func56, Try.ntmps56
  go_wp2_with fail
  refine bodyPost_ret (results_none rfl _ _ _) rfl ?_
  exact ⟨rfl, Only.refl _ _⟩

theorem asn1_err (b : Nat) (tag : Int) (F : FuncId) (cap : Array Value) (w : World) (h : Erred w b) : Calls Try.prog 40 #[.pointer (some ⟨b, 0, none⟩), .int .u8 tag, .func (.func F) #[] cap] w (Idle w) := by
  obtain ⟨T, u, hc⟩ := h.cell
  clear h
  go_enter Try.func40, Try.ntmps40
  go_wp2_with fail
  refine bodyPost_ret (results_none rfl _ _ _) rfl ?_
  exact ⟨rfl, Only.refl _ _⟩

theorem unwrite_err (b : Nat) (n : Int) (w : World) (h : Erred w b) : Calls Try.prog 52 #[.pointer (some ⟨b, 0, none⟩), .int .i64 n] w (Idle w) := by
  obtain ⟨T, u, hc⟩ := h.cell
  clear h
  go_enter Try.func52, Try.ntmps52
  go_wp2_with fail
  refine bodyPost_ret (results_none rfl _ _ _) rfl ?_
  exact ⟨rfl, Only.refl _ _⟩

theorem u8_err (b : Nat) (x : Int) (w : World) (h : Erred w b) : Calls Try.prog 28 #[.pointer (some ⟨b, 0, none⟩), .int .u8 x] w (Idle w) := by
  have H := Lib.hid (add_err b (some ⟨w.heap.size, 0, none⟩) 1 1 (w.alloc (.cells #[.int .u8 (x)] 5)) (h.alloc _))
  clear h
  go_enter Try.func28, Try.ntmps28
  go_wp2_with fail
  refine H.out.mono ?_
  rintro e w' ⟨rfl, hk⟩
  have HQ : Hid (Only [] w w') := Lib.hid (((Only.refl _ _).alloc _).trans hk)
  clear hk H
  go_wp2_with fail
  go_end0
  exact ⟨rfl, HQ.out⟩

theorem u16_err (b : Nat) (x : Int) (w : World) (h : Erred w b) : Calls Try.prog 29 #[.pointer (some ⟨b, 0, none⟩), .int .u16 x] w (Idle w) := by
  have H := Lib.hid (add_err b (some ⟨w.heap.size, 0, none⟩) 2 2 (w.alloc (.cells #[.int .u8 (x / 256 % 256), .int .u8 (x % 256)] 5)) (h.alloc _))
  clear h
  go_enter Try.func29, Try.ntmps29
  go_wp2_with fail
  refine H.out.mono ?_
  rintro e w' ⟨rfl, hk⟩
  have HQ : Hid (Only [] w w') := Lib.hid (((Only.refl _ _).alloc _).trans hk)
  clear hk H
  go_wp2_with fail
  go_end0
  exact ⟨rfl, HQ.out⟩

theorem u24_err (b : Nat) (x : Int) (w : World) (h : Erred w b) : Calls Try.prog 30 #[.pointer (some ⟨b, 0, none⟩), .int .u32 x] w (Idle w) := by
  have H := Lib.hid (add_err b (some ⟨w.heap.size, 0, none⟩) 3 3 (w.alloc (.cells #[.int .u8 (x / 65536 % 256), .int .u8 (x / 256 % 256), .int .u8 (x % 256)] 5)) (h.alloc _))
  clear h
  go_enter Try.func30, Try.ntmps30
  go_wp2_with fail
  refine H.out.mono ?_
  rintro e w' ⟨rfl, hk⟩
  have HQ : Hid (Only [] w w') := Lib.hid (((Only.refl _ _).alloc _).trans hk)
  clear hk H
  go_wp2_with fail
  go_end0
  exact ⟨rfl, HQ.out⟩

theorem u32_err (b : Nat) (x : Int) (w : World) (h : Erred w b) : Calls Try.prog 31 #[.pointer (some ⟨b, 0, none⟩), .int .u32 x] w (Idle w) := by
  have H := Lib.hid (add_err b (some ⟨w.heap.size, 0, none⟩) 4 4 (w.alloc (.cells #[.int .u8 (x / 16777216 % 256), .int .u8 (x / 65536 % 256), .int .u8 (x / 256 % 256), .int .u8 (x % 256)] 5)) (h.alloc _))
  clear h
  go_enter Try.func31, Try.ntmps31
  go_wp2_with fail
  refine H.out.mono ?_
  rintro e w' ⟨rfl, hk⟩
  have HQ : Hid (Only [] w w') := Lib.hid (((Only.refl _ _).alloc _).trans hk)
  clear hk H
  go_wp2_with fail
  go_end0
  exact ⟨rfl, HQ.out⟩

theorem u48_err (b : Nat) (x : Int) (w : World) (h : Erred w b) : Calls Try.prog 32 #[.pointer (some ⟨b, 0, none⟩), .int .u64 x] w (Idle w) := by
  have H := Lib.hid (add_err b (some ⟨w.heap.size, 0, none⟩) 6 6 (w.alloc (.cells #[.int .u8 (x / 1099511627776 % 256), .int .u8 (x / 4294967296 % 256), .int .u8 (x / 16777216 % 256), .int .u8 (x / 65536 % 256), .int .u8 (x / 256 % 256), .int .u8 (x % 256)] 5)) (h.alloc _))
  clear h
  go_enter Try.func32, Try.ntmps32
  go_wp2_with fail
  refine H.out.mono ?_
  rintro e w' ⟨rfl, hk⟩
  have HQ : Hid (Only [] w w') := Lib.hid (((Only.refl _ _).alloc _).trans hk)
  clear hk H
  go_wp2_with fail
  go_end0
  exact ⟨rfl, HQ.out⟩

theorem u64_err (b : Nat) (x : Int) (w : World) (h : Erred w b) : Calls Try.prog 33 #[.pointer (some ⟨b, 0, none⟩), .int .u64 x] w (Idle w) := by
  have H := Lib.hid (add_err b (some ⟨w.heap.size, 0, none⟩) 8 8 (w.alloc (.cells #[.int .u8 (x / 72057594037927936 % 256), .int .u8 (x / 281474976710656 % 256), .int .u8 (x / 1099511627776 % 256), .int .u8 (x / 4294967296 % 256), .int .u8 (x / 16777216 % 256), .int .u8 (x / 65536 % 256), .int .u8 (x / 256 % 256), .int .u8 (x % 256)] 5)) (h.alloc _))
  clear h
  go_enter Try.func33, Try.ntmps33
  go_wp2_with fail
  refine H.out.mono ?_
  rintro e w' ⟨rfl, hk⟩
  have HQ : Hid (Only [] w w') := Lib.hid (((Only.refl _ _).alloc _).trans hk)
  clear hk H
  go_wp2_with fail
  go_end0
  exact ⟨rfl, HQ.out⟩

theorem bytes_err (b : Nat) (A : Option Addr) (n c : Nat) (w : World) (h : Erred w b) : Calls Try.prog 34 #[.pointer (some ⟨b, 0, none⟩), .slice A n c] w (Idle w) := by
  have H := Lib.hid (add_err b A n c w h)
  clear h
  go_enter Try.func34, Try.ntmps34
  go_wp2_with fail
  refine H.out.mono ?_
  rintro e w' ⟨rfl, hk⟩
  have HQ : Hid (Only [] w w') := Lib.hid (hk)
  clear hk H
  go_wp2_with fail
  go_end0
  exact ⟨rfl, HQ.out⟩

theorem lp8_err (b : Nat) (F : FuncId) (cap : Array Value) (w : World) (h : Erred w b) : Calls Try.prog 35 #[.pointer (some ⟨b, 0, none⟩), .func (.func F) #[] cap] w (Idle w) := by
  have H := Lib.hid (lp_err b 1 false F cap w h)
  clear h
  go_enter Try.func35, Try.ntmps35
  go_wp2_with fail
  refine H.out.mono ?_
  rintro e w' ⟨rfl, hk⟩
  have HQ : Hid (Only [] w w') := Lib.hid (hk)
  clear hk H
  go_wp2_with fail
  go_end0
  exact ⟨rfl, HQ.out⟩

theorem lp16_err (b : Nat) (F : FuncId) (cap : Array Value) (w : World) (h : Erred w b) : Calls Try.prog 37 #[.pointer (some ⟨b, 0, none⟩), .func (.func F) #[] cap] w (Idle w) := by
  have H := Lib.hid (lp_err b 2 false F cap w h)
  clear h
  go_enter Try.func37, Try.ntmps37
  go_wp2_with fail
  refine H.out.mono ?_
  rintro e w' ⟨rfl, hk⟩
  have HQ : Hid (Only [] w w') := Lib.hid (hk)
  clear hk H
  go_wp2_with fail
  go_end0
  exact ⟨rfl, HQ.out⟩

theorem lp24_err (b : Nat) (F : FuncId) (cap : Array Value) (w : World) (h : Erred w b) : Calls Try.prog 38 #[.pointer (some ⟨b, 0, none⟩), .func (.func F) #[] cap] w (Idle w) := by
  have H := Lib.hid (lp_err b 3 false F cap w h)
  clear h
  go_enter Try.func38, Try.ntmps38
  go_wp2_with fail
  refine H.out.mono ?_
  rintro e w' ⟨rfl, hk⟩
  have HQ : Hid (Only [] w w') := Lib.hid (hk)
  clear hk H
  go_wp2_with fail
  go_end0
  exact ⟨rfl, HQ.out⟩

theorem lp32_err (b : Nat) (F : FuncId) (cap : Array Value) (w : World) (h : Erred w b) : Calls Try.prog 39 #[.pointer (some ⟨b, 0, none⟩), .func (.func F) #[] cap] w (Idle w) := by
  have H := Lib.hid (lp_err b 4 false F cap w h)
  clear h
  go_enter Try.func39, Try.ntmps39
  go_wp2_with fail
  refine H.out.mono ?_
  rintro e w' ⟨rfl, hk⟩
  have HQ : Hid (Only [] w w') := Lib.hid (hk)
  clear hk H
  go_wp2_with fail
  go_end0
  exact ⟨rfl, HQ.out⟩

theorem bool_err (b : Nat) (x : Bool) (w : World) (h : Erred w b) : Calls Try.prog 41 #[.pointer (some ⟨b, 0, none⟩), .bool x] w (Idle w) := by
  have H := Lib.hid (asn1_err b 1 58 #[.pointer (some ⟨w.heap.size, 0, none⟩)] (w.alloc (.cells #[.bool x] 4)) (h.alloc _))
  clear h
  have hmf : ∀ (fn : Fn) (first cap : Array Value) (w : World), (Instr.makeFunc fn first cap).run Try.prog w = .ok (.func fn first cap) w := fun _ _ _ _ => rfl
  cases x with
  | true =>
    go_enter Try.func41, Try.ntmps41
    go_wp2_with fail
    refine H.out.mono ?_
    rintro e w' ⟨rfl, hk⟩
    have HQ : Hid (Only [] w w') := Lib.hid (((Only.refl _ _).alloc _).trans hk)
    clear hk H
    go_wp2_with fail
    go_end0
    exact ⟨rfl, HQ.out⟩
  | false =>
    go_enter Try.func41, Try.ntmps41
    go_wp2_with fail
    refine H.out.mono ?_
    rintro e w' ⟨rfl, hk⟩
    have HQ : Hid (Only [] w w') := Lib.hid (((Only.refl _ _).alloc _).trans hk)
    clear hk H
    go_wp2_with fail
    go_end0
    exact ⟨rfl, HQ.out⟩

theorem signed_err (b : Nat) (tag x : Int) (w : World) (h : Erred w b) : Calls Try.prog 59 #[.pointer (some ⟨b, 0, none⟩), .int .u8 tag, .int .i64 x] w (Idle w) := by
  have H := Lib.hid (asn1_err b tag 71 #[.pointer (some ⟨w.heap.size, 0, none⟩)] (w.alloc (.cells #[.int .i64 x] 2)) (h.alloc _))
  clear h
  have hmf : ∀ (fn : Fn) (first cap : Array Value) (w : World), (Instr.makeFunc fn first cap).run Try.prog w = .ok (.func fn first cap) w := fun _ _ _ _ => rfl
  go_enter Try.func59, Try.ntmps59
  go_wp2_with fail
  refine H.out.mono ?_
  rintro e w' ⟨rfl, hk⟩
  have HQ : Hid (Only [] w w') := Lib.hid (((Only.refl _ _).alloc _).trans hk)
  clear hk H
  go_wp2_with fail
  go_end0
  exact ⟨rfl, HQ.out⟩

theorem int64_err (b : Nat) (x : Int) (w : World) (h : Erred w b) : Calls Try.prog 42 #[.pointer (some ⟨b, 0, none⟩), .int .i64 x] w (Idle w) := by
  have H := Lib.hid (signed_err b 2 x w h)
  clear h
  go_enter Try.func42, Try.ntmps42
  go_wp2_with fail
  refine H.out.mono ?_
  rintro e w' ⟨rfl, hk⟩
  have HQ : Hid (Only [] w w') := Lib.hid (hk)
  clear hk H
  go_wp2_with fail
  go_end0
  exact ⟨rfl, HQ.out⟩

theorem withtag_err (b : Nat) (tag x : Int) (w : World) (h : Erred w b) : Calls Try.prog 43 #[.pointer (some ⟨b, 0, none⟩), .int .i64 x, .int .u8 tag] w (Idle w) := by
  have H := Lib.hid (signed_err b tag x w h)
  clear h
  go_enter Try.func43, Try.ntmps43
  go_wp2_with fail
  refine H.out.mono ?_
  rintro e w' ⟨rfl, hk⟩
  have HQ : Hid (Only [] w w') := Lib.hid (hk)
  clear hk H
  go_wp2_with fail
  go_end0
  exact ⟨rfl, HQ.out⟩

theorem enum_err (b : Nat) (x : Int) (w : World) (h : Erred w b) : Calls Try.prog 45 #[.pointer (some ⟨b, 0, none⟩), .int .i64 x] w (Idle w) := by
  have H := Lib.hid (signed_err b 10 x w h)
  clear h
  go_enter Try.func45, Try.ntmps45
  go_wp2_with fail
  refine H.out.mono ?_
  rintro e w' ⟨rfl, hk⟩
  have HQ : Hid (Only [] w w') := Lib.hid (hk)
  clear hk H
  go_wp2_with fail
  go_end0
  exact ⟨rfl, HQ.out⟩

theorem uint_err (b : Nat) (x : Int) (w : World) (h : Erred w b) : Calls Try.prog 44 #[.pointer (some ⟨b, 0, none⟩), .int .u64 x] w (Idle w) := by
  have H := Lib.hid (asn1_err b 2 60 #[.pointer (some ⟨w.heap.size, 0, none⟩)] (w.alloc (.cells #[.int .u64 x] 66)) (h.alloc _))
  clear h
  have hmf : ∀ (fn : Fn) (first cap : Array Value) (w : World), (Instr.makeFunc fn first cap).run Try.prog w = .ok (.func fn first cap) w := fun _ _ _ _ => rfl
  go_enter Try.func44, Try.ntmps44
  go_wp2_with fail
  refine H.out.mono ?_
  rintro e w' ⟨rfl, hk⟩
  have HQ : Hid (Only [] w w') := Lib.hid (((Only.refl _ _).alloc _).trans hk)
  clear hk H
  go_wp2_with fail
  go_end0
  exact ⟨rfl, HQ.out⟩

theorem octet_err (b : Nat) (A : Option Addr) (n c : Nat) (w : World) (h : Erred w b) : Calls Try.prog 47 #[.pointer (some ⟨b, 0, none⟩), .slice A n c] w (Idle w) := by
  have H := Lib.hid (asn1_err b 4 61 #[.pointer (some ⟨w.heap.size, 0, none⟩)] (w.alloc (.cells #[.slice A n c] 24)) (h.alloc _))
  clear h
  have hmf : ∀ (fn : Fn) (first cap : Array Value) (w : World), (Instr.makeFunc fn first cap).run Try.prog w = .ok (.func fn first cap) w := fun _ _ _ _ => rfl
  go_enter Try.func47, Try.ntmps47
  go_wp2_with fail
  refine H.out.mono ?_
  rintro e w' ⟨rfl, hk⟩
  have HQ : Hid (Only [] w w') := Lib.hid (((Only.refl _ _).alloc _).trans hk)
  clear hk H
  go_wp2_with fail
  go_end0
  exact ⟨rfl, HQ.out⟩

theorem bits_err (b : Nat) (A : Option Addr) (n c : Nat) (w : World) (h : Erred w b) : Calls Try.prog 48 #[.pointer (some ⟨b, 0, none⟩), .slice A n c] w (Idle w) := by
  have H := Lib.hid (asn1_err b 3 62 #[.pointer (some ⟨w.heap.size, 0, none⟩)] (w.alloc (.cells #[.slice A n c] 24)) (h.alloc _))
  clear h
  have hmf : ∀ (fn : Fn) (first cap : Array Value) (w : World), (Instr.makeFunc fn first cap).run Try.prog w = .ok (.func fn first cap) w := fun _ _ _ _ => rfl
  go_enter Try.func48, Try.ntmps48
  go_wp2_with fail
  refine H.out.mono ?_
  rintro e w' ⟨rfl, hk⟩
  have HQ : Hid (Only [] w w') := Lib.hid (((Only.refl _ _).alloc _).trans hk)
  clear hk H
  go_wp2_with fail
  go_end0
  exact ⟨rfl, HQ.out⟩

theorem oid_err (b : Nat) (A : Option Addr) (n c : Nat) (w : World) (h : Erred w b) : Calls Try.prog 49 #[.pointer (some ⟨b, 0, none⟩), .slice A n c] w (Idle w) := by
  have H := Lib.hid (asn1_err b 6 63 #[.pointer (some ⟨w.heap.size, 0, none⟩)] (w.alloc (.cells #[.slice A n c] 77)) (h.alloc _))
  clear h
  have hmf : ∀ (fn : Fn) (first cap : Array Value) (w : World), (Instr.makeFunc fn first cap).run Try.prog w = .ok (.func fn first cap) w := fun _ _ _ _ => rfl
  go_enter Try.func49, Try.ntmps49
  go_wp2_with fail
  refine H.out.mono ?_
  rintro e w' ⟨rfl, hk⟩
  have HQ : Hid (Only [] w w') := Lib.hid (((Only.refl _ _).alloc _).trans hk)
  clear hk H
  go_wp2_with fail
  go_end0
  exact ⟨rfl, HQ.out⟩

theorem null_err (b : Nat) (w : World) (h : Erred w b) : Calls Try.prog 46 #[.pointer (some ⟨b, 0, none⟩)] w (Idle w) := by
  have H := Lib.hid (add_err b (some ⟨w.heap.size, 0, none⟩) 2 2 (w.alloc (.cells #[.int .u8 5, .int .u8 0] 5)) (h.alloc _))
  clear h
  go_enter Try.func46, Try.ntmps46
  go_wp2_with fail
  refine H.out.mono ?_
  rintro e w' ⟨rfl, hk⟩
  have HQ : Hid (Only [] w w') := Lib.hid (((Only.refl _ _).alloc _).trans hk)
  clear hk H
  go_wp2_with fail
  go_end0
  exact ⟨rfl, HQ.out⟩

theorem setError_any (b : Nat) (v : Bv) (T : TypeId) (u : Value) (w : World) (h : Bld w b v) : Calls Try.prog 50 #[.pointer (some ⟨b, 0, none⟩), .iface T u] w fun e w' => e = .returned (.tuple #[]) ∧ w' = w.setCell ⟨b, 0, none⟩ (.iface T u) := by
  have h0 := h.c0
  have hf := h.free 0
  clear h
  go_enter Try.func50, Try.ntmps50
  go_wp2_with fail
  go_end0
  exact ⟨rfl, rfl⟩

theorem Row.cutTo {w : World} {base : Nat} {A : Option Addr} {L c : Nat} {xs : List Int} (h : Row w base (.slice A L c) xs) (hL : L = xs.length) (k : Nat) (hk : k ≤ L) : Row w base (.slice A k c) (xs.take k) := by
  subst hL
  refine ⟨h.1.take k, by simp, ?_⟩
  have hl : (xs.take k).length = k := by simp; omega
  rw [hl]
  rcases h.2.2 with ⟨hv, h0⟩ | ⟨g, cap, cur, hv, hb, hg, hnc, hm, hs, ht⟩
  · injection hv with h1 h2 h3
    subst h1 h3
    obtain rfl : k = 0 := by omega
    exact .inl ⟨rfl, rfl⟩
  · injection hv with h1 _ h3
    subst h1 h3
    refine .inr ⟨g, c, cur, rfl, hb, hg, by omega, hm, hs, ?_⟩
    rw [Nat.mul_one] at ht ⊢
    rw [List.map_take, ← ht, List.take_take, Nat.min_eq_left hk]

set_option maxRecDepth 100000 in
theorem unwrite_any (b : Nat) (v : Bv) (ys cs : List Int) (n : Nat) (w : World) (base : Nat) (h : Bld w b v) (he : v.err = .nilIface) (hch : v.child = .pointer none) (hr : Row w base v.res (ys ++ cs)) (hoff : 0 ≤ v.off ∧ 0 ≤ v.pll ∧ v.off + v.pll = ys.length) (hn : n ≤ cs.length) (hl : (ys ++ cs).length ≤ 2147483640) :
    Calls Try.prog 52 #[.pointer (some ⟨b, 0, none⟩), .int .i64 (n : Int)] w fun e w' => e = .returned (.tuple #[]) ∧ Only [b] w w' ∧ ∃ r, Bld w' b { v with res := r } ∧ Row w' base r (ys ++ cs.take (cs.length - n)) ∧ own r = own v.res := by
  obtain ⟨Ar, cr, hres, hrc, hrm, hrb⟩ := hr.form
  have h0 := h.c0
  have h1 := h.c1
  have h3 := h.c3
  have h4 := h.c4
  have h5 := h.c5
  have hf := h.free 1
  rw [he] at h0
  rw [hch] at h3
  rw [hres] at h1 hr
  obtain ⟨o1, o2, o3⟩ := hoff
  have hlen : (ys ++ cs).length = ys.length + cs.length := by simp
  have hbo : b ∉ own (.slice Ar (ys ++ cs).length cr) := hr.ne h (by decide)
  have HCUT := Lib.hid (hr.cutTo rfl (ys.length + (cs.length - n)) (by rw [hlen]; omega))
  have HB := Lib.hid h
  have HRES := Lib.hid hres
  have HBO := Lib.hid hbo
  obtain ⟨P, hP⟩ : ∃ P, (ys ++ cs).length = P := ⟨_, rfl⟩
  rw [hP] at h1 hrc hl hlen
  obtain ⟨off, hoff⟩ : ∃ off, v.off = off := ⟨_, rfl⟩
  obtain ⟨pll, hpll⟩ : ∃ pll, v.pll = pll := ⟨_, rfl⟩
  rw [hoff] at h4 o1 o3
  rw [hpll] at h5 o2 o3
  have HP := Lib.hid (And.intro hlen hP)
  have e1 : IntKind.i64.wrap ((P : Int) - pll) = (P : Int) - pll := IntWalk.i64_in _ (by omega)
  have e2 : IntKind.i64.wrap ((P : Int) - pll - off) = (cs.length : Int) := by rw [show (P : Int) - pll - off = cs.length by omega]; exact IntWalk.i64_in _ (by omega)
  have e3 : IntKind.i64.wrap ((P : Int) - (n : Int)) = ((P - n : Nat) : Int) := by rw [show (P : Int) - (n : Int) = ((P - n : Nat) : Int) by omega]; exact IntWalk.i64_in _ (by omega)
  have hle : ¬ (cs.length : Int) < (n : Int) := by omega
  obtain ⟨k, hk⟩ : ∃ k, P - n = k := ⟨_, rfl⟩
  rw [hk] at e3
  have hkc : k ≤ cr := by omega
  have hkc' : (k : Int) ≤ (cr : Int) := by omega
  have hk0 : ¬ (k : Int) < 0 := by omega
  have HKK : Hid (k = ys.length + (cs.length - n)) := Lib.hid (by omega)
  clear h he hch hr hres hrm hrb hoff hpll hP hlen o1 o2 o3 hn hl hk
  go_enter Try.func52, Try.ntmps52
  go_wp2_with fail
  go_quiet (fail)
  go_wp2_with fail
  obtain ⟨w1, hw1⟩ : ∃ w1, w.drewN nq = w1 := ⟨_, rfl⟩
  have HK : Hid (Only [b] w w1) := Lib.hid (hw1 ▸ (Only.refl _ _).drewN nq)
  have HB1 := Lib.hid (hw1 ▸ HB.out.drewN nq)
  have HC1 : Hid (Row w1 base (.slice Ar (ys.length + (cs.length - n)) cr) ((ys ++ cs).take (ys.length + (cs.length - n)))) := Lib.hid (hw1 ▸ HCUT.out)
  rw [hw1]
  clear hw1 h0 h1 h3 h4 h5 hf HB HCUT
  have h1 := HB1.out.c1
  rw [HRES.out, HP.out.2] at h1
  have hf := HB1.out.free 1
  clear e1 e2 hle
  go_still_tail 13, (by kernel_rfl)
  go_wp2_with fail
  go_end0
  have hbo := HBO.out
  rw [HP.out.2] at hbo
  refine ⟨rfl, (HK.out.setCell (p := ⟨b, 1, none⟩) (.inl (by simp)) _).drew, .slice Ar k cr, (HB1.out.set1 _).drew, ?_, ?_⟩
  · have hrow := HC1.out
    rw [← HKK.out] at hrow
    have h2 := Row.only (l := [b]) hrow ((Only.refl _ _).setCell (p := ⟨b, 1, none⟩) (.inl (by simp)) (.slice Ar k cr)) (by intro q hq hm; simp only [List.mem_singleton] at hq; subst hq; refine hbo ?_; cases Ar <;> exact hm)
    rw [HKK.out, List.take_length_add_append] at h2
    rw [HKK.out]
    exact h2
  · rw [HRES.out]
    cases Ar <;> rfl
end Go.Proofs.Ytndnglpehghmeaa

/-! ### Steps of building as data: what they are, how memory holds them, what they come to. -/
namespace Go.Proofs.Ytndnglpehghmeaa
open Go.RowKit

/-- A list of steps: the first one's kind, number, tag, bytes, arcs, steps within; the others. -/
inductive Its where
  | nil
  | cons (k n t : Int) (d o : List Int) (kids rest : Its)
def Its.len : Its → Nat
  | .nil => 0
  | .cons _ _ _ _ _ _ rest => rest.len + 1
/-- The cells of an item. -/
def itemCells (k n t : Int) (d o : List Int) (Ad : Option Addr) (cd : Nat) (Ao : Option Addr) (co : Nat) (Ak : Option Addr) (nk ck : Nat) : List Value :=
  [.int .i64 k, .int .i64 n, .int .i64 t, .slice Ad d.length cd, .slice Ao o.length co, .slice Ak nk ck]
/-- Memory holds steps from a cell on; all lies in blocks below B. -/
def ItsAt (w : World) (B : Nat) : Its → Nat → Nat → Prop
  | .nil, _, _ => True
  | .cons k n t d o kids rest, b, off => ∃ (Ad : Option Addr) (cd : Nat) (Ao : Option Addr) (co : Nat) (Ak : Option Addr) (ck : Nat),
      (∀ i u, (itemCells k n t d o Ad cd Ao co Ak kids.len ck)[i]? = some u → w.cell? ⟨b, off + i, none⟩ = some u) ∧
      (-9223372036854775808 ≤ k ∧ k ≤ 9223372036854775807) ∧ (-9223372036854775808 ≤ n ∧ n ≤ 9223372036854775807) ∧ (-9223372036854775808 ≤ t ∧ t ≤ 9223372036854775807) ∧
      Rd w B Ad d ∧ d.length ≤ cd ∧ cd ≤ maxLen ∧ RdI w B Ao o ∧ o.length ≤ co ∧ co ≤ maxLen ∧ kids.len ≤ ck ∧ ck ≤ maxLen ∧ (0 < kids.len → ∃ b' off', Ak = some ⟨b', off', none⟩ ∧ b' < B ∧ ItsAt w B kids b' off') ∧ ItsAt w B rest b (off + 6)
/-- A slice that reads as steps. -/
def ItsRd (w : World) (B : Nat) (A : Option Addr) (its : Its) : Prop := 0 < its.len → ∃ b off, A = some ⟨b, off, none⟩ ∧ b < B ∧ ItsAt w B its b off
theorem ItsAt.keep {w w' : World} {B : Nat} (hk : ∀ p : Addr, p.block < B → w'.cell? p = w.cell? p) : ∀ {its : Its} {b off : Nat}, b < B → ItsAt w B its b off → ItsAt w' B its b off := by
  intro its
  induction its with
  | nil => intro _ _ _ _; trivial
  | cons k n t d o kids rest ihk ihr =>
    rintro b off hb ⟨Ad, cd, Ao, co, Ak, ck, h1, h2, h3, h4, h5, h6, h7, h8, h9, h10, h11, h12, h13, h14⟩
    refine ⟨Ad, cd, Ao, co, Ak, ck, fun i u hu => (hk _ hb).trans (h1 i u hu), h2, h3, h4, h5.keep hk, h6, h7, h8.keep hk, h9, h10, h11, h12, ?_, ihr hb h14⟩
    intro hp
    obtain ⟨b', off', e, hb', h⟩ := h13 hp
    exact ⟨b', off', e, hb', ihk hb' h⟩
theorem ItsRd.keep {w w' : World} {B : Nat} {A : Option Addr} {its : Its} (h : ItsRd w B A its) (hk : ∀ p : Addr, p.block < B → w'.cell? p = w.cell? p) : ItsRd w' B A its := by
  intro hp
  obtain ⟨b, off, e, hb, h⟩ := h hp
  exact ⟨b, off, e, hb, h.keep hk hb⟩
theorem ItsRd.only {w w' : World} {B : Nat} {l : List Nat} {A : Option Addr} {its : Its} (h : ItsRd w B A its) (ho : Only l w w') (hl : ∀ k ∈ l, B ≤ k) (hB : B ≤ w.heap.size) : ItsRd w' B A its :=
  h.keep fun _ hp => (ho.below hl hB).cell hp
theorem ItsAt.only {w w' : World} {B : Nat} {l : List Nat} {its : Its} {b off : Nat} (h : ItsAt w B its b off) (hb : b < B) (ho : Only l w w') (hl : ∀ k ∈ l, B ≤ k) (hB : B ≤ w.heap.size) : ItsAt w' B its b off :=
  h.keep (fun _ hp => (ho.below hl hB).cell hp) hb


/-! ### what steps come to -/
/-- A step that adds bytes, or fails: a number, bytes, an element without steps within. -/
def leaf (k n t : Int) (d o : List Int) : Option (List Int) :=
  if k = 0 then some (bigB n 1) else if k = 1 then some (bigB n 2) else if k = 2 then some (bigB n 3) else if k = 3 then some (bigB n 4) else if k = 4 then some (bigB n 6) else if k = 5 then some (bigB n 8) else if k = 6 then some d
  else if k = 12 then elem 1 [if n = 1 then 255 else 0] else if k = 13 then elem 2 (octs n) else if k = 14 then elem t (octs n) else if k = 15 then elem 2 (uocts (n % 18446744073709551616)) else if k = 16 then elem 10 (octs n)
  else if k = 17 then elem 5 [] else if k = 18 then elem 4 d else if k = 19 then elem 3 (0 :: d) else if k = 20 then (oidCs o).bind (elem 6) else none
/-- Bytes behind bytes; or an error. -/
def resCat (cs : List Int) : Option (List Int) → Res
  | some bs => .good (cs ++ bs)
  | none => .err
/-- The same, where the tag may be one of more than one byte. -/
def asnAll (t : Int) (ins : Bool) (r : Res) : Res := if t % 32 = 31 then .err else asnRes t ins r
/-- One step at a builder that has no error; cs: what the builder holds of its own; none: it takes back more than there is. -/
def one (ins : Bool) (k n t : Int) (d o : List Int) (rt : Option Res) (ri : List Int → Option Res) (cs : List Int) : Option Res :=
  if k ≤ 6 ∨ (12 ≤ k ∧ k ≤ 20) then some (resCat cs (leaf k n t d o))
  else if k ≤ 11 then rt.map fun r => (if k = 11 then asnAll t ins r else lpRes false (k - 6).toNat ins r).pre cs
  else if k = 21 then some .err
  else if k = 22 then if 0 ≤ n ∧ n ≤ cs.length then some (.good (cs.take (cs.length - n.toNat))) else none
  else if k = 23 then some .pan
  else if k = 24 then ri cs
  else (ri cs).map fun r => match r with
    | .pan => .pan
    | _ => .err
/-- One step at a builder that has an error. -/
def oneE (k : Int) (re : Res) : Res := if k = 23 then .pan else if k = 24 ∨ k = 25 then (match re with | .pan => .pan | _ => .err) else .err
def runE : Its → Res
  | .nil => .err
  | .cons k _ _ _ _ kids rest => match oneE k (runE kids) with
    | .pan => .pan
    | _ => runE rest
def run : Its → Bool → List Int → Option Res
  | .nil, _, cs => some (.good cs)
  | .cons k n t d o kids rest, ins, cs => match one ins k n t d o (run kids true []) (run kids ins) cs with
    | none => none
    | some (.good cs') => run rest ins cs'
    | some .err => some (runE rest)
    | some .pan => some .pan
/-- How long steps may make what is built. -/
def wt : Its → Nat
  | .nil => 0
  | .cons _ _ _ d o kids rest => 24 + d.length + 5 * o.length + wt kids + wt rest
/-- Steps that can be done. -/
def Ok : Its → Bool → Prop
  | .nil, _ => True
  | .cons k _ t _ o kids rest, ins => 0 ≤ k ∧ k ≤ 25 ∧ 0 ≤ t ∧ t ≤ 255 ∧ (k = 23 → ins = true) ∧ (∀ v ∈ o, v ≤ 2147483647) ∧ Ok kids (ins || decide (7 ≤ k ∧ k ≤ 11)) ∧ Ok rest ins
theorem runE_two (its : Its) : runE its = .err ∨ runE its = .pan := by
  induction its with
  | nil => exact .inl rfl
  | cons k n t d o kids rest _ ih =>
    unfold runE
    split
    · exact .inr rfl
    · exact ih
theorem elem_le {tag : Int} {xs zs : List Int} (h : elem tag xs = some zs) : zs.length ≤ xs.length + 6 := by
  unfold elem at h
  split at h
  · cases h
  · simp only [Option.some.injEq] at h
    subst h
    unfold wrapped
    have := hdr_len_le tag xs.length
    rw [List.length_append]
    omega
theorem leaf_le {k n t : Int} {d o bs : List Int} (hn : -9223372036854775808 ≤ n ∧ n ≤ 9223372036854775807) (h : leaf k n t d o = some bs) : bs.length ≤ 16 + d.length + 5 * o.length := by
  have h1 := octs_len n
  have h2 := (iL_is n hn.1 hn.2).1
  have h3 := uocts_len (n % 18446744073709551616)
  have h4 := (uL_is (n % 18446744073709551616) (by omega) (by omega)).1
  unfold leaf at h
  by_cases e0 : k = 0
  · rw [if_pos e0] at h
    obtain rfl := Option.some.inj h
    rw [bigB_len]; omega
  rw [if_neg e0] at h
  by_cases e1 : k = 1
  · rw [if_pos e1] at h
    obtain rfl := Option.some.inj h
    rw [bigB_len]; omega
  rw [if_neg e1] at h
  by_cases e2 : k = 2
  · rw [if_pos e2] at h
    obtain rfl := Option.some.inj h
    rw [bigB_len]; omega
  rw [if_neg e2] at h
  by_cases e3 : k = 3
  · rw [if_pos e3] at h
    obtain rfl := Option.some.inj h
    rw [bigB_len]; omega
  rw [if_neg e3] at h
  by_cases e4 : k = 4
  · rw [if_pos e4] at h
    obtain rfl := Option.some.inj h
    rw [bigB_len]; omega
  rw [if_neg e4] at h
  by_cases e5 : k = 5
  · rw [if_pos e5] at h
    obtain rfl := Option.some.inj h
    rw [bigB_len]; omega
  rw [if_neg e5] at h
  by_cases e6 : k = 6
  · rw [if_pos e6] at h
    obtain rfl := Option.some.inj h
    omega
  rw [if_neg e6] at h
  by_cases e12 : k = 12
  · rw [if_pos e12] at h
    have h5 := elem_le h
    simp only [List.length_cons, List.length_nil] at h5; omega
  rw [if_neg e12] at h
  by_cases e13 : k = 13
  · rw [if_pos e13] at h
    have h5 := elem_le h
    omega
  rw [if_neg e13] at h
  by_cases e14 : k = 14
  · rw [if_pos e14] at h
    have h5 := elem_le h
    omega
  rw [if_neg e14] at h
  by_cases e15 : k = 15
  · rw [if_pos e15] at h
    have h5 := elem_le h
    omega
  rw [if_neg e15] at h
  by_cases e16 : k = 16
  · rw [if_pos e16] at h
    have h5 := elem_le h
    omega
  rw [if_neg e16] at h
  by_cases e17 : k = 17
  · rw [if_pos e17] at h
    have h5 := elem_le h
    simp only [List.length_nil] at h5; omega
  rw [if_neg e17] at h
  by_cases e18 : k = 18
  · rw [if_pos e18] at h
    have h5 := elem_le h
    omega
  rw [if_neg e18] at h
  by_cases e19 : k = 19
  · rw [if_pos e19] at h
    have h5 := elem_le h
    simp only [List.length_cons] at h5; omega
  rw [if_neg e19] at h
  by_cases e20 : k = 20
  · rw [if_pos e20] at h
    cases ho : oidCs o with
    | none => rw [ho] at h; cases h
    | some c =>
      rw [ho] at h
      have h5 := elem_le (tag := 6) (xs := c) h
      have h6 := oidCs_len ho
      omega
  rw [if_neg e20] at h
  cases h
/-- The numbers of steps are 64 bits wide. -/
def Rng : Its → Prop
  | .nil => True
  | .cons _ n _ _ _ kids rest => (-9223372036854775808 ≤ n ∧ n ≤ 9223372036854775807) ∧ Rng kids ∧ Rng rest
theorem one_le {ins : Bool} {k n t : Int} {d o cs cs' : List Int} {rt : Option Res} {ri : List Int → Option Res} {K : Nat} (hn : -9223372036854775808 ≤ n ∧ n ≤ 9223372036854775807) (hrt : ∀ bs, rt = some (.good bs) → bs.length ≤ K) (hri : ∀ bs, ri cs = some (.good bs) → bs.length ≤ cs.length + K)
    (h : one ins k n t d o rt ri cs = some (.good cs')) : cs'.length ≤ cs.length + (16 + d.length + 5 * o.length + K) := by
  unfold one at h
  split at h
  · cases hl : leaf k n t d o with
    | none => rw [hl] at h; cases h
    | some bs =>
      rw [hl] at h
      simp only [resCat, Option.some.injEq, Res.good.injEq] at h
      subst h
      have := leaf_le hn hl
      rw [List.length_append]
      omega
  · split at h
    · cases rt with
      | none => cases h
      | some r =>
        simp only [Option.map_some, Option.some.injEq] at h
        split at h
        · unfold asnAll at h
          split at h
          · cases h
          · cases r with
            | good bs =>
              simp only [asnRes, Res.pre, Res.good.injEq] at h
              subst h
              have h1 := hrt bs rfl
              have h2 := hdr_len_le t bs.length
              unfold wrapped
              simp only [List.length_append]
              omega
            | err => cases h
            | pan => cases ins <;> cases h
        · cases r with
          | good bs =>
            simp only [lpRes] at h
            split at h
            · rename_i hs hf
              simp only [Res.pre, Res.good.injEq] at h
              subst h
              have h1 := hrt bs rfl
              have h2 := fl_len hf
              simp only [List.length_append]
              omega
            · cases h
          | err => cases h
          | pan => cases ins <;> cases h
    · split at h
      · cases h
      · split at h
        · split at h
          · simp only [Option.some.injEq, Res.good.injEq] at h
            subst h
            rw [List.length_take]
            omega
          · cases h
        · split at h
          · cases h
          · split at h
            · have := hri cs' h
              omega
            · cases hr : ri cs with
              | none => rw [hr] at h; cases h
              | some r =>
                rw [hr] at h
                cases r <;> cases h
theorem run_le : ∀ (its : Its) (ins ins' : Bool) (cs cs' : List Int), Rng its → Ok its ins' → run its ins cs = some (.good cs') → cs'.length ≤ cs.length + wt its := by
  intro its
  induction its with
  | nil =>
    intro ins ins' cs cs' _ _ h
    unfold run at h
    simp only [Option.some.injEq, Res.good.injEq] at h
    subst h
    simp [wt]
  | cons k n t d o kids rest ihk ihr =>
    intro ins ins' cs cs' hr hok h
    obtain ⟨r1, r2, r3⟩ := hr
    obtain ⟨_, _, _, _, _, _, o7, o8⟩ := hok
    unfold run at h
    split at h
    · cases h
    · rename_i cs1 h1
      have h2 := one_le (K := wt kids) r1 (fun bs hb => by have := ihk true _ [] bs r2 o7 hb; simpa using this) (fun bs hb => ihk ins _ cs bs r2 o7 hb) h1
      have h3 := ihr ins _ cs1 cs' r3 o8 h
      simp only [wt]
      omega
    · rename_i h1
      have := runE_two rest
      rcases this with e | e <;> rw [e] at h <;> cases h
    · cases h
end Go.Proofs.Ytndnglpehghmeaa

/-! ### Steps at a builder: what is held. -/
namespace Go.Proofs.Ytndnglpehghmeaa
open Go.RowKit

/-- A builder that has no error, as steps find it: ys came before it, cs is its own. -/
structure Good (w : World) (base b : Nat) (v : Bv) (ys cs : List Int) (ins : Bool) (B : Nat) : Prop where
  bld : Bld w b v
  err : v.err = .nilIface
  child : v.child = .pointer none
  fixed : v.fixed = false
  ready : Ready w v.inc ins
  row : Row w base v.res (ys ++ cs)
  base : base ≤ w.heap.size
  off : 0 ≤ v.off ∧ 0 ≤ v.pll ∧ v.off + v.pll = ys.length
  low : ∀ k ∈ LL ins b v, B ≤ k
  hB : B ≤ w.heap.size
theorem Ready.only {w w' : World} {l : List Nat} {i : Value} {ins : Bool} (h : Ready w i ins) (ho : Only l w w') (hl : ∀ k ∈ l, k ∉ incI i) : Ready w' i ins := by
  rcases h with h | ⟨bi, e, hv⟩
  · exact .inl h
  · exact .inr ⟨bi, e, hv.only ho (fun hm => hl bi hm (by rw [e]; simp [incI]))⟩
theorem Good.grow {w w' : World} {base b : Nat} {v : Bv} {ys cs : List Int} {ins : Bool} {B : Nat} (h : Good w base b v ys cs ins B) (ho : Only [] w w') : Good w' base b v ys cs ins B :=
  ⟨h.bld.only ho (by simp), h.err, h.child, h.fixed, h.ready.only ho (by simp), h.row.only ho (by simp), Nat.le_trans h.base ho.size, h.off, h.low, Nat.le_trans h.hB ho.size⟩
theorem Good.lt {w : World} {base b : Nat} {v : Bv} {ys cs : List Int} {ins : Bool} {B : Nat} (h : Good w base b v ys cs ins B) : ∀ k ∈ LL ins b v, k < w.heap.size := LL.lt h.bld h.ready h.row
/-- Behind steps that went well the builder is as good. -/
theorem DoneP.next {w w' : World} {base b N : Nat} {v : Bv} {ys cs cs' : List Int} {ins : Bool} {B : Nat} {e : Ending} (h : DoneP w base b v ys ins N (.good cs') e w') (g : Good w base b v ys cs ins B) :
    e = .returned (.tuple #[]) ∧ ∃ r i, Good w' base b { v with res := r, inc := i } ys cs' ins B ∧ OwnLe w v.res r ∧ (ins = true → i = v.inc) ∧ (∀ k ∈ incI i, k ∈ incI v.inc ∨ w.heap.size ≤ k) ∧ Only (LL ins b v) w w' := by
  obtain ⟨ho, he, r, i, h1, h2, h3, h4, h5, h6⟩ := h
  have hB := g.hB
  refine ⟨he, r, i, ⟨h1, g.err, g.child, g.fixed, h4, h2, Nat.le_trans g.base ho.size, g.off, ?_, Nat.le_trans hB ho.size⟩, h3, h5, h6, ho⟩
  intro k hk
  simp only [LL, List.mem_cons, List.mem_append] at hk
  rcases hk with rfl | hk | hk
  · exact g.low _ (by simp [LL])
  · cases ins with
    | true => simp at hk
    | false =>
      simp only [Bool.false_eq_true, if_false] at hk
      rcases h6 k hk with h | h
      · exact g.low _ (by simp [LL, h])
      · omega
  · rcases h3 k hk with h | h
    · exact g.low _ (by simp [LL, h])
    · omega
/-- What follows. -/
theorem DoneP.trans {w w1 w' : World} {base b N : Nat} {v : Bv} {ys : List Int} {ins : Bool} {r i : Value} {o : Res} {e : Ending} (h : DoneP w1 base b { v with res := r, inc := i } ys ins N o e w') (ho : Only (LL ins b v) w w1)
    (hr : OwnLe w v.res r) (hi : ∀ k ∈ incI i, k ∈ incI v.inc ∨ w.heap.size ≤ k) (hins : ins = true → i = v.inc) : DoneP w base b v ys ins N o e w' := by
  have := DoneP.before (xs := []) (by rw [List.append_nil]; exact h) ho hr hi hins
  cases o <;> exact this
theorem DoneP.grow {w w1 w' : World} {base b N : Nat} {v : Bv} {ys : List Int} {ins : Bool} {o : Res} {e : Ending} (h : DoneP w1 base b v ys ins N o e w') (ho : Only [] w w1) : DoneP w base b v ys ins N o e w' :=
  DoneP.trans (r := v.res) (i := v.inc) h (ho.more (by simp)) (OwnLe.refl _ _) (fun k hk => .inl hk) (fun _ => rfl)
theorem DoneP.own {w w' : World} {base b N : Nat} {v : Bv} {ys cs : List Int} {ins : Bool} {o : Res} {e : Ending} (h : DoneP w base b v (ys ++ cs) ins N o e w') : DoneP w base b v ys ins N (o.pre cs) e w' :=
  DoneP.before (r := v.res) (i := v.inc) h (Only.refl _ _) (OwnLe.refl _ _) (fun _ hk => .inl hk) (fun _ => rfl)
theorem Res.pre_ofO (cs : List Int) (o : Option (List Int)) : (ofO o).pre cs = resCat cs o := by cases o <;> rfl
/-- The data of an item that memory holds. -/
structure ItemRd (w : World) (B : Nat) (n t : Int) (d o : List Int) (kids : Its) (Ad : Option Addr) (Ao : Option Addr) (Ak : Option Addr) : Prop where
  rn : -9223372036854775808 ≤ n ∧ n ≤ 9223372036854775807
  rt : 0 ≤ t ∧ t ≤ 255
  rd : Rd w B Ad d
  ro : RdI w B Ao o
  rk : ItsRd w B Ak kids
  om : ∀ v ∈ o, v ≤ 2147483647
  dl : d.length ≤ 4194304
  ol : o.length ≤ 4194304
theorem ItemRd.grow {w w' : World} {B : Nat} {n t : Int} {d o : List Int} {kids : Its} {Ad Ao Ak : Option Addr} (h : ItemRd w B n t d o kids Ad Ao Ak) (ho : Only [] w w') (hB : B ≤ w.heap.size) : ItemRd w' B n t d o kids Ad Ao Ak :=
  ⟨h.rn, h.rt, h.rd.only ho (by simp) hB, h.ro.only ho (by simp) hB, h.rk.only ho (by simp) hB, h.om, h.dl, h.ol⟩
/-- An item as it is handed on. -/
def itemV (k n t : Int) (d o : List Int) (kids : Its) (Ad : Option Addr) (cd : Nat) (Ao : Option Addr) (co : Nat) (Ak : Option Addr) (ck : Nat) : Value :=
  .agg #[.int .i64 k, .int .i64 n, .int .i64 t, .slice Ad d.length cd, .slice Ao o.length co, .slice Ak kids.len ck]
theorem bigB_mod1 (n : Int) : bigB (n % 256) 1 = bigB n 1 := by simp [bigB]
theorem bigB_mod2 (n : Int) : bigB (n % 65536) 2 = bigB n 2 := by simp [bigB] <;> omega
theorem bigB_mod3 (n : Int) : bigB (n % 4294967296) 3 = bigB n 3 := by simp [bigB] <;> omega
theorem bigB_mod4 (n : Int) : bigB (n % 4294967296) 4 = bigB n 4 := by simp [bigB] <;> omega
theorem bigB_mod6 (n : Int) : bigB (n % 18446744073709551616) 6 = bigB n 6 := by simp [bigB] <;> omega
theorem bigB_mod8 (n : Int) : bigB (n % 18446744073709551616) 8 = bigB n 8 := by simp [bigB] <;> omega
theorem Good.item {w : World} {base b : Nat} {v : Bv} {ys cs : List Int} {ins : Bool} {B : Nat} (g : Good w base b v ys cs ins B) (o : Obj) : Good (w.alloc o) base b v ys cs ins B := g.grow ((Only.refl _ _).alloc o)
theorem ItemRd.alloc {w : World} {B : Nat} {n t : Int} {d o : List Int} {kids : Its} {Ad Ao Ak : Option Addr} (h : ItemRd w B n t d o kids Ad Ao Ak) (hB : B ≤ w.heap.size) (ob : Obj) : ItemRd (w.alloc ob) B n t d o kids Ad Ao Ak := h.grow ((Only.refl _ _).alloc ob) hB
/-- All steps within the steps of a list are such. -/
def Kids (P : Its → Prop) : Its → Prop
  | .nil => True
  | .cons _ _ _ _ _ kids rest => P kids ∧ Kids P rest
/-- Steps that are left: from which cell on. -/
def LeftAt (w : World) (B : Nat) (A : Option Addr) (j : Nat) (its : Its) : Prop := 0 < its.len → ∃ blk off, A = some ⟨blk, off, none⟩ ∧ blk < B ∧ ItsAt w B its blk (off + 6 * j)
theorem LeftAt.next {w : World} {B : Nat} {blk off : Nat} {j : Nat} {rest : Its} (hb : blk < B) (h : ItsAt w B rest blk (off + 6 * j + 6)) : LeftAt w B (some ⟨blk, off, none⟩) (j + 1) rest := fun _ => ⟨blk, off, rfl, hb, by rw [Nat.mul_add, ← Nat.add_assoc]; exact h⟩
theorem len_wt (its : Its) : its.len ≤ wt its := by
  induction its with
  | nil => exact Nat.le_refl _
  | cons k n t d o kids rest _ ih => simp only [Its.len, wt]; omega
end Go.Proofs.Ytndnglpehghmeaa

/-! ### The reference's builder: the model. -/
namespace Go.Proofs.Ytndnglpehghmeaa
open Go.RowKit

/-- What a builder of the reference has come to. -/
structure St where
  out : List Int
  dir : Nat
  fl : Bool
  wr : Bool
def sElem (t : Int) (xs : List Int) (s : St) : St := if t % 32 = 31 then { s with fl := true } else { s with out := s.out ++ wrapped t xs, dir := 0 }
def sPre (m : Nat) (xs : List Int) (s : St) : St := if 256 ^ m ≤ xs.length then { s with fl := true } else { s with out := s.out ++ (bigB (xs.length : Int) m ++ xs), dir := 0 }
def sOid (o : List Int) (s : St) : St := if oidRight o = true then sElem 6 (oidC o) s else { s with fl := true }
def sWr (xs : List Int) (s : St) : St := { s with out := s.out ++ xs, dir := s.dir + xs.length }
def sIn (inn s : St) : St := { s with fl := s.fl || inn.fl, wr := s.wr || inn.wr }
def sBack (n : Int) (s : St) : St := if 0 ≤ n ∧ n ≤ s.dir then { s with out := s.out.take (s.out.length - n.toNat), dir := s.dir - n.toNat } else { s with wr := true }
def sLeaf (k n t : Int) (d o : List Int) (s : St) : St :=
  if k = 12 then sElem 1 [if n = 1 then 255 else 0] s else if k = 13 then sElem 2 (octs n) s else if k = 14 then sElem t (octs n) s else if k = 15 then sElem 2 (uocts (n % 18446744073709551616)) s else if k = 16 then sElem 10 (octs n) s
  else if k = 17 then sElem 5 [] s else if k = 18 then sElem 4 d s else if k = 19 then sElem 3 (0 :: d) s else sOid o s
/-- One step of the reference. -/
def sOne (k n t : Int) (d o : List Int) (inn : St) (on : St → St) (s : St) : St :=
  if k = 0 then sWr (bigB n 1) s else if k = 1 then sWr (bigB n 2) s else if k = 2 then sWr (bigB n 3) s else if k = 3 then sWr (bigB n 4) s else if k = 4 then sWr (bigB n 6) s else if k = 5 then sWr (bigB n 8) s else if k = 6 then sWr d s
  else if k ≤ 10 then sPre (k - 6).toNat inn.out (sIn inn s) else if k = 11 then sElem t inn.out (sIn inn s) else if k ≤ 20 then sLeaf k n t d o s
  else if k = 22 then sBack n s else if k = 24 ∨ k = 25 then { on s with fl := (on s).fl || decide (k = 25) } else { s with fl := true }
def St.nil : St := ⟨[], 0, false, false⟩
def sRun : Its → St → St
  | .nil, s => s
  | .cons k n t d o kids rest, s => if s.fl || s.wr then s else sRun rest (sOne k n t d o (sRun kids St.nil) (sRun kids) s)

/-- No second arc is too great. -/
def Arc : Its → Prop
  | .nil => True
  | .cons _ _ _ _ o kids rest => o.getD 1 0 ≤ 2147483567 ∧ Arc kids ∧ Arc rest

end Go.Proofs.Ytndnglpehghmeaa
