/- Continuations, length prefixes, elements of a tag: contracts. -/
import Derived.Test.YtlnoeipbbncnfaaBl6
import Derived.Test.YtlnoeipbbncnfaaTag
namespace Go.Proofs.Ytlnoeipbbncnfaa
open Go.RowKit

/-- A function value that is a continuation: it adds bytes to the child (or ends in an error). -/
def ContOK (w : World) (base b : Nat) (vres : Value) (F : FuncId) (cap : Array Value) (o : Option (List Int)) : Prop :=
  ∀ W c vc zs, Only (b :: own vres) w W → w.heap.size ≤ c → Bld W c vc → vc.err = .nilIface → vc.child = .pointer none → vc.fixed = false → Row W base vc.res zs → zs.length ≤ 2147483660 → base ≤ W.heap.size →
    Calls Try.prog F (#[.pointer (some ⟨c, 0, none⟩)] ++ cap) W (ContR W base c vc zs o)
theorem ContOK.later {w w1 : World} {base b : Nat} {vres r : Value} {F : FuncId} {cap : Array Value} {o : Option (List Int)} (h : ContOK w base b vres F cap o) (ho : Only (b :: own vres) w w1)
    (hr : r.ownBlock = vres.ownBlock ∨ ∀ k ∈ own r, w.heap.size ≤ k) : ContOK w1 base b r F cap o := by
  intro W c vc zs ho' hc
  refine h W c vc zs (ho.then ho' ?_) (Nat.le_trans ho.size hc)
  intro i hi hlt
  rcases List.mem_cons.1 hi with rfl | hi
  · simp
  · rcases hr with h | h
    · refine List.mem_cons_of_mem _ ?_
      rw [own, ← h]
      exact hi
    · have := h i hi
      omega
theorem DoneR.before {w w1 : World} {base b : Nat} {v : Bv} {ys xs : List Int} {r : Value} {o : Option (List Int)} {e : Ending} {w' : World} (h : DoneR w1 base b { v with res := r } (ys ++ xs) o e w') (ho : Only (b :: own v.res) w w1)
    (hr : r.ownBlock = v.res.ownBlock ∨ ∀ k ∈ own r, w.heap.size ≤ k) : DoneR w base b v ys (o.map (xs ++ ·)) e w' := by
  obtain ⟨h1, h2, h3⟩ := h
  refine ⟨h1, ho.then h2 ?_, ?_⟩
  · intro i hi hlt
    rcases List.mem_cons.1 hi with rfl | hi
    · simp
    · rcases hr with h | h
      · refine List.mem_cons_of_mem _ ?_
        rw [own, ← h]
        exact hi
      · have := h i hi
        omega
  · cases o with
    | none => exact h3
    | some zs =>
      obtain ⟨r', i, h4, h5⟩ := h3
      exact ⟨r', i, h4, by rw [← List.append_assoc]; exact h5⟩
theorem BaddLP_ok (b : Nat) (v : Bv) (m : Nat) (asn : Bool) (F : FuncId) (cap : Array Value) (ys : List Int) (o : Option (List Int)) (w : World) (base : Nat) (hF : ∀ args W, (callFunc F args).run Try.prog W = .ok (.enter F args) W)
    (h : Bld w b v) (he : v.err = .nilIface) (hch : v.child = .pointer none) (hf : v.fixed = false) (hinc : v.inc = .pointer none) (hr : Row w base v.res ys) (hb : base ≤ w.heap.size) (hm1 : 1 ≤ m) (hm4 : m ≤ 4) (ham : asn = true → m = 1)
    (hl : ys.length ≤ 2147483640) (hlo : ∀ cs, o = some cs → ys.length + cs.length ≤ 2147483640) (hcont : ContOK w base b v.res F cap o) :
    Calls Try.prog 39 #[.pointer (some ⟨b, 0, none⟩), .int .i64 (m : Int), .bool asn, .func (.func F) #[] cap] w (DoneR w base b v ys (o.bind fun cs => (fl asn m cs.length).map (· ++ cs))) :=
  BaddLP_new b v m asn F cap ys o w base hF h he hch hf hinc hr hb hm1 hm4 ham hl hlo fun W c r bi h1 h2 h3 h4 h5 =>
    hcont W c _ _ h1 h2 h3 rfl rfl rfl h4 (by simp; omega) h5
theorem and31_all : ∀ k : Nat, k < 256 → bits .and .u8 (k : Int) 31 = (k : Int) % 32 := by decide +kernel
theorem u8_and31 (x : Int) (h0 : 0 ≤ x) (h1 : x ≤ 255) : bits .and .u8 x 31 = x % 32 := by
  obtain ⟨k, rfl⟩ := Int.eq_ofNat_of_zero_le h0
  exact and31_all k (by omega)





theorem BAddASN1_any (b : Nat) (v : Bv) (tag : Int) (F : FuncId) (cap : Array Value) (ys : List Int) (o : Option (List Int)) (w : World) (base : Nat) (ht : 0 ≤ tag ∧ tag ≤ 255) (hF : ∀ args W, (callFunc F args).run Try.prog W = .ok (.enter F args) W) (h : Bld w b v) (he : v.err = .nilIface) (hch : v.child = .pointer none) (hf : v.fixed = false) (hinc : v.inc = .pointer none) (hr : Row w base v.res ys) (hb : base ≤ w.heap.size)
    (hl : ys.length ≤ 2147483630) (hlo : ∀ cs, o = some cs → ys.length + cs.length ≤ 2147483630) (hcont : ContOK w base b v.res F cap o) :
    Calls Try.prog 30 #[.pointer (some ⟨b, 0, none⟩), .int .u8 tag, .func (.func F) #[] cap] w (DoneR w base b v ys (if tag % 32 = 31 then none else o.map (wrapped tag))) := by
  have b0 := h.c0
  rw [he] at b0
  have hand := u8_and31 tag ht.1 ht.2
  by_cases h31 : tag % 32 = 31
  · rw [if_pos h31]
    rw [h31] at hand
    have bf0 := h.free 0
    have hlt := h.lt
    have HE := Lib.hid (fun s => (show DoneR w base b v ys none (.returned (.tuple #[])) ((w.setCell ⟨b, 0, none⟩ (.iface 78 (.pointer (some ⟨w.heap.size, 0, none⟩)))).alloc (.cells #[.string s] 80)) from ⟨rfl, ((Only.refl _ _).setCell (.inl (by simp)) _).alloc _, 78, .pointer (some ⟨w.heap.size, 0, none⟩), v.res, v.inc, (h.set0 _).alloc _⟩))
    clear h he hch hf hinc hr hb hl hlo hcont ht h31 hF
    go_enter Try.func30, Try.ntmps30
    go_wp2_with fail
    refine (errorsNew_any _ _).mono ?_
    rintro e w' ⟨rfl, rfl⟩
    go_wp2_with fail
    refine bodyPost_ret (results_none rfl _ _ _) rfl ?_
    exact HE.out _
  · rw [if_neg h31]
    have H := Lib.hid (BAddUint8_any b v tag ys w base h he hch hf hr hb (by omega) ht.1 ht.2)
    have hne : (bits .and .u8 tag 31 == 31) = false := beq_eq_false_iff_ne.2 (by rw [hand]; exact h31)
    have HF := Lib.hid hF
    have HC := Lib.hid hcont
    have HV := Lib.hid (And.intro he (And.intro hch (And.intro hf (And.intro hinc (And.intro hb (And.intro hl (And.intro hlo ht)))))))
    clear h he hch hf hinc hr hb hl hlo hcont ht h31 hF hand
    go_enter Try.func30, Try.ntmps30
    go_wp2_with fail
    refine H.out.mono ?_
    rintro e w1 ⟨r1, rfl, hb1, hr1, ho1, hown1⟩
    obtain ⟨he, hch, hf, hinc, hb, hl, hlo, ht⟩ := HV.out
    have hbig : bigB tag 1 = [tag] := by rw [bigB_one, Int.emod_eq_of_lt ht.1 (by omega)]
    rw [hbig] at hr1
    have H2 := Lib.hid (BaddLP_ok b { v with res := r1 } 1 true F cap (ys ++ [tag]) o w1 base HF.out hb1 he hch hf hinc hr1 (by have := ho1.size; omega) (by decide) (by decide) (fun _ => rfl) (by simp; omega) (fun cs hc => by have := hlo cs hc; simp; omega) (HC.out.later ho1 hown1))
    have HB := Lib.hid (And.intro ho1 hown1)
    clear hb1 hr1 ho1 hown1 he hch hf hinc hb hl hlo ht hbig H HC HV HF
    go_wp2_with fail
    refine H2.out.mono ?_
    intro e w2 hd
    have hd2 := hd.before HB.out.1 HB.out.2
    obtain ⟨rfl, hd3⟩ := hd2
    have HD := Lib.hid hd3
    clear hd hd3
    go_wp2_with fail
    go_end0
    refine ⟨rfl, ?_⟩
    have h3 := HD.out
    have heq : Option.map (fun x => [tag] ++ x) (o.bind fun cs => (fl true 1 cs.length).map (· ++ cs)) = o.map (wrapped tag) := by
      cases o with
      | none => rfl
      | some cs =>
        show some ([tag] ++ (lenB cs.length ++ cs)) = some (wrapped tag cs)
        unfold wrapped
        rw [hdr_lenB]
        rfl
    rw [heq] at h3
    exact h3

end Go.Proofs.Ytlnoeipbbncnfaa
