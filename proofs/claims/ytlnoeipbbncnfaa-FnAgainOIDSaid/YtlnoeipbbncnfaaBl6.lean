/- addLengthPrefixed with a builder that has had no continuation yet: contract. -/
import Derived.Test.YtlnoeipbbncnfaaBl5
import Derived.BigRegion
namespace Go.Proofs.Ytlnoeipbbncnfaa
open Go.RowKit

/-- What a continuation leaves of the child that it is given (it does not panic). -/
def ContR (W : World) (base c : Nat) (vc : Bv) (ys : List Int) (o : Option (List Int)) (e : Ending) (w' : World) : Prop :=
  e = .returned (.tuple #[]) ∧ Only (c :: own vc.res) W w' ∧ (match o with
   | some cs => ∃ r, Bld w' c { vc with res := r } ∧ Row w' base r (ys ++ cs) ∧ (r.ownBlock = vc.res.ownBlock ∨ ∀ k ∈ own r, W.heap.size ≤ k)
   | none => ∃ T u vc', Bld w' c vc' ∧ vc'.err = .iface T u ∧ vc'.child = .pointer none)
/-- What a step with a continuation leaves. -/
def DoneR (w : World) (base b : Nat) (v : Bv) (ys : List Int) (o : Option (List Int)) (e : Ending) (w' : World) : Prop :=
  e = .returned (.tuple #[]) ∧ Only (b :: own v.res) w w' ∧ (match o with
   | some zs => ∃ r i, Bld w' b { v with res := r, inc := i } ∧ Row w' base r (ys ++ zs)
   | none => ∃ T u r i, Bld w' b { v with err := .iface T u, res := r, inc := i })
theorem Added.cont {W : World} {base c : Nat} {vc : Bv} {ys xs : List Int} {e : Ending} {w' : World} (h : Added W base c vc ys xs e w') : ContR W base c vc ys (some xs) e w' := by
  obtain ⟨r, rfl, h1, h2, h3, h4⟩ := h
  exact ⟨rfl, h3, r, h1, h2, h4⟩

theorem BaddLP_new (b : Nat) (v : Bv) (m : Nat) (asn : Bool) (F : FuncId) (cap : Array Value) (ys : List Int) (o : Option (List Int)) (w : World) (base : Nat) (hF : ∀ args W, (callFunc F args).run Try.prog W = .ok (.enter F args) W)
    (h : Bld w b v) (he : v.err = .nilIface) (hch : v.child = .pointer none) (hf : v.fixed = false) (hinc : v.inc = .pointer none) (hr : Row w base v.res ys) (hb : base ≤ w.heap.size) (hm1 : 1 ≤ m) (hm4 : m ≤ 4) (ham : asn = true → m = 1)
    (hl : ys.length ≤ 2147483640) (hlo : ∀ cs, o = some cs → ys.length + cs.length ≤ 2147483640)
    (hcont : ∀ W c r bi, Only (b :: own v.res) w W → w.heap.size ≤ c → Bld W c ⟨.nilIface, r, false, .pointer none, ys.length, m, asn, .pointer (some ⟨bi, 0, none⟩)⟩ → Row W base r (ys ++ List.replicate m 0) → base ≤ W.heap.size →
      Calls Try.prog F (#[.pointer (some ⟨c, 0, none⟩)] ++ cap) W (ContR W base c ⟨.nilIface, r, false, .pointer none, ys.length, m, asn, .pointer (some ⟨bi, 0, none⟩)⟩ (ys ++ List.replicate m 0) o)) :
    Calls Try.prog 39 #[.pointer (some ⟨b, 0, none⟩), .int .i64 (m : Int), .bool asn, .func (.func F) #[] cap] w (DoneR w base b v ys (o.bind fun cs => (fl asn m cs.length).map (· ++ cs))) := by
  obtain ⟨Ar, cr, hres, hrc, hrm, hrb⟩ := hr.form
  have b0 := h.c0
  have b1 := h.c1
  rw [he] at b0
  rw [hres] at b1
  have hmk := fun W => mk_run m hm1 hm4 W
  have HZ := Lib.hid (Badd_zeros b v ys m w base h he hch hf hr hb (by omega))
  have HC := Lib.hid hcont
  have HFF := Lib.hid hF
  have HV := Lib.hid (And.intro he (And.intro hch (And.intro hf (And.intro hinc hb))))
  have HM := Lib.hid (And.intro hm1 (And.intro hm4 ham))
  have HL := Lib.hid (And.intro hl hlo)
  have hres' := Lib.hid hres
  clear hcont h he hch hf hinc hr hb hm1 hm4 ham hl hlo hrb hres hF hrc hrm
  go_enter Try.func39, Try.ntmps39
  go_wp2_with fail
  refine HZ.out.mono ?_
  rintro e w1 ⟨r1, rfl, hb1, hr1, ho1, hown1⟩
  obtain ⟨he, hch, hf, hinc, hbase⟩ := HV.out
  obtain ⟨A1, k1, rfl, hk1, hm1', _⟩ := hr1.form
  obtain ⟨L1, hL1⟩ : ∃ L1, (ys ++ List.replicate m (0 : Int)).length = L1 := ⟨_, rfl⟩
  rw [hL1] at hb1 hr1 hown1
  obtain ⟨r1, hr1e⟩ : ∃ r1, Value.slice A1 L1 k1 = r1 := ⟨_, rfl⟩
  rw [hr1e] at hb1 hr1 hown1
  clear hL1 hk1 hm1'
  have c7 := hb1.c7
  have cf7 := hb1.free 7
  rw [show ({ v with res := r1 } : Bv).inc = v.inc from rfl, hinc] at c7
  have hlt1 := hb1.lt
  go_wp2_with fail
  have hb2 := (hb1.set7 (.pointer (some ⟨w1.heap.size, 0, none⟩))).alloc (.cells #[.bool false] 4)
  have hv2 : Var ((w1.setCell ⟨b, 7, none⟩ (.pointer (some ⟨w1.heap.size, 0, none⟩))).alloc (.cells #[.bool false] 4)) w1.heap.size 4 (.bool false) := by
    have := Var.new (w1.setCell ⟨b, 7, none⟩ (.pointer (some ⟨w1.heap.size, 0, none⟩))) 4 (.bool false)
    rwa [show (w1.setCell ⟨b, 7, none⟩ (.pointer (some ⟨w1.heap.size, 0, none⟩))).heap.size = w1.heap.size by simp] at this
  have hbr1 : b ∉ own r1 := hr1.ne hb1 (by decide)
  have hr2 : Row ((w1.setCell ⟨b, 7, none⟩ (.pointer (some ⟨w1.heap.size, 0, none⟩))).alloc (.cells #[.bool false] 4)) base r1 (ys ++ List.replicate m 0) := (Row.only (l := [b]) hr1 ((Only.refl _ _).setCell (.inl (by simp)) _) (by simpa using hbr1)).alloc _
  have ho2 : Only (b :: own v.res) w ((w1.setCell ⟨b, 7, none⟩ (.pointer (some ⟨w1.heap.size, 0, none⟩))).alloc (.cells #[.bool false] 4)) := (ho1.setCell (.inl (by simp)) _).alloc _
  have hz2 : w1.heap.size ≤ ((w1.setCell ⟨b, 7, none⟩ (.pointer (some ⟨w1.heap.size, 0, none⟩))).alloc (.cells #[.bool false] 4)).heap.size := by simp
  have HSZ := Lib.hid ho1.size
  have HLT := Lib.hid hlt1
  obtain ⟨bi, hbi⟩ : ∃ bi, w1.heap.size = bi := ⟨_, rfl⟩
  rw [hbi] at hb2 hv2 hr2 ho2 hz2 ⊢
  obtain ⟨w2, hw2⟩ : ∃ w2, (w1.setCell ⟨b, 7, none⟩ (.pointer (some ⟨bi, 0, none⟩))).alloc (.cells #[.bool false] 4) = w2 := ⟨_, rfl⟩
  rw [hw2] at hb2 hv2 hr2 ho2 hz2 ⊢
  subst hr1e
  have b1' := hb2.c1
  have b2' := hb2.c2
  have b7' := hb2.c7
  have bf3 := hb2.free 3
  have b3' := hb2.c3
  rw [show ({ ({ v with res := .slice A1 L1 k1 } : Bv) with inc := .pointer (some ⟨bi, 0, none⟩) } : Bv).fixed = v.fixed from rfl, hf] at b2'
  have n1 := World.new_ne w2 ⟨b, 1, none⟩ b1'
  have n2 := World.new_ne w2 ⟨b, 2, none⟩ b2'
  have n7 := World.new_ne w2 ⟨b, 7, none⟩ b7'
  have hltb : b < w2.heap.size := hb2.lt
  have HB2 := Lib.hid hb2
  have HV2 := Lib.hid hv2
  have HR2 := Lib.hid hr2
  have HO2 := Lib.hid ho2
  have HZ2 := Lib.hid hz2
  have HVV := Lib.hid (And.intro he (And.intro hch (And.intro hf (And.intro hinc hbase))))
  have HBI := Lib.hid hbi
  have HOW1 := Lib.hid hown1
  clear hb2 hv2 hr2 ho2 hz2 hw2 he hch hf hinc hbase hb1 hr1 ho1 hown1 c7 cf7 hbr1 hbi HZ HV hmk hlt1
  go_region
  go_wp2_with fail
  have hbbi : bi ≠ b := by have := HLT.out; have := HBI.out; omega
  have hv3 : Var (((w2.setCell ⟨b, 3, none⟩ (.pointer (some ⟨w2.heap.size, 0, none⟩))).alloc (.cells #[.nilIface, .slice A1 L1 k1, .bool false, .pointer none, .int .i64 (ys.length : Int), .int .i64 (m : Int), .bool asn, .pointer (some ⟨bi, 0, none⟩)] 54)).drew) bi 4 (.bool false) := ((HV2.out.far (p := ⟨b, 3, none⟩) hbbi _).alloc _).drew
  have hb3 : Bld (((w2.setCell ⟨b, 3, none⟩ (.pointer (some ⟨w2.heap.size, 0, none⟩))).alloc (.cells #[.nilIface, .slice A1 L1 k1, .bool false, .pointer none, .int .i64 (ys.length : Int), .int .i64 (m : Int), .bool asn, .pointer (some ⟨bi, 0, none⟩)] 54)).drew) b { ({ ({ v with res := .slice A1 L1 k1 } : Bv) with inc := .pointer (some ⟨bi, 0, none⟩) } : Bv) with child := .pointer (some ⟨w2.heap.size, 0, none⟩) } := ((HB2.out.set3 (.pointer (some ⟨w2.heap.size, 0, none⟩))).alloc _).drew
  have hc3 : Bld (((w2.setCell ⟨b, 3, none⟩ (.pointer (some ⟨w2.heap.size, 0, none⟩))).alloc (.cells #[.nilIface, .slice A1 L1 k1, .bool false, .pointer none, .int .i64 (ys.length : Int), .int .i64 (m : Int), .bool asn, .pointer (some ⟨bi, 0, none⟩)] 54)).drew) w2.heap.size ⟨.nilIface, .slice A1 L1 k1, false, .pointer none, ys.length, m, asn, .pointer (some ⟨bi, 0, none⟩)⟩ := by
    have := Bld.new (w2.setCell ⟨b, 3, none⟩ (.pointer (some ⟨w2.heap.size, 0, none⟩))) ⟨.nilIface, .slice A1 L1 k1, false, .pointer none, ys.length, m, asn, .pointer (some ⟨bi, 0, none⟩)⟩
    rw [show (w2.setCell ⟨b, 3, none⟩ (.pointer (some ⟨w2.heap.size, 0, none⟩))).heap.size = w2.heap.size by simp] at this
    exact this.drew
  have hbr2 : b ∉ own (.slice A1 L1 k1) := HR2.out.ne HB2.out (by decide)
  have hr3 : Row (((w2.setCell ⟨b, 3, none⟩ (.pointer (some ⟨w2.heap.size, 0, none⟩))).alloc (.cells #[.nilIface, .slice A1 L1 k1, .bool false, .pointer none, .int .i64 (ys.length : Int), .int .i64 (m : Int), .bool asn, .pointer (some ⟨bi, 0, none⟩)] 54)).drew) base (.slice A1 L1 k1) (ys ++ List.replicate m 0) := ((Row.only (l := [b]) HR2.out ((Only.refl _ _).setCell (.inl (by simp)) _) (by simpa using hbr2)).alloc _).drew
  have ho3 : Only (b :: own v.res) w (((w2.setCell ⟨b, 3, none⟩ (.pointer (some ⟨w2.heap.size, 0, none⟩))).alloc (.cells #[.nilIface, .slice A1 L1 k1, .bool false, .pointer none, .int .i64 (ys.length : Int), .int .i64 (m : Int), .bool asn, .pointer (some ⟨bi, 0, none⟩)] 54)).drew) := ((HO2.out.setCell (.inl (by simp)) _).alloc _).drew
  obtain ⟨c, hc⟩ : ∃ c, w2.heap.size = c := ⟨_, rfl⟩
  rw [hc] at hv3 hb3 hc3 hr3 ho3 ⊢
  obtain ⟨w3, hw3⟩ : ∃ w3, ((w2.setCell ⟨b, 3, none⟩ (.pointer (some ⟨c, 0, none⟩))).alloc (.cells #[.nilIface, .slice A1 L1 k1, .bool false, .pointer none, .int .i64 (ys.length : Int), .int .i64 (m : Int), .bool asn, .pointer (some ⟨bi, 0, none⟩)] 54)).drew = w3 := ⟨_, rfl⟩
  rw [hw3] at hv3 hb3 hc3 hr3 ho3 ⊢
  have hwc : w.heap.size ≤ c := by have := HO2.out.size; omega
  have hwbi : w.heap.size ≤ bi := by have := HSZ.out; have := HBI.out; omega
  have hcbi : c ≠ bi := fun e => by have := HV2.out.lt; omega
  have hW4c : Bld ((w3.setCell ⟨bi, 0, none⟩ (.bool true)).alloc (.cells #[.pointer (some ⟨b, 0, none⟩)] 51)) c ⟨.nilIface, .slice A1 L1 k1, false, .pointer none, ys.length, m, asn, .pointer (some ⟨bi, 0, none⟩)⟩ := (hc3.far (p := ⟨bi, 0, none⟩) hcbi _).alloc _
  have hW4b := (hb3.far (p := ⟨bi, 0, none⟩) (Ne.symm hbbi) (.bool true)).alloc (.cells #[.pointer (some ⟨b, 0, none⟩)] 51)
  have hW4v : Var ((w3.setCell ⟨bi, 0, none⟩ (.bool true)).alloc (.cells #[.pointer (some ⟨b, 0, none⟩)] 51)) bi 4 (.bool true) := (hv3.set _).alloc _
  have hW4p : Var ((w3.setCell ⟨bi, 0, none⟩ (.bool true)).alloc (.cells #[.pointer (some ⟨b, 0, none⟩)] 51)) w3.heap.size 51 (.pointer (some ⟨b, 0, none⟩)) := by
    have := Var.new (w3.setCell ⟨bi, 0, none⟩ (.bool true)) 51 (.pointer (some ⟨b, 0, none⟩))
    rwa [show (w3.setCell ⟨bi, 0, none⟩ (.bool true)).heap.size = w3.heap.size by simp] at this
  have hbir : bi ∉ own (.slice A1 L1 k1) := hr3.ne hv3 (by decide)
  have hW4r : Row ((w3.setCell ⟨bi, 0, none⟩ (.bool true)).alloc (.cells #[.pointer (some ⟨b, 0, none⟩)] 51)) base (.slice A1 L1 k1) (ys ++ List.replicate m 0) := (Row.only (l := [bi]) hr3 ((Only.refl _ _).setCell (.inl (by simp)) _) (by simpa using hbir)).alloc _
  have hW4o : Only (b :: own v.res) w ((w3.setCell ⟨bi, 0, none⟩ (.bool true)).alloc (.cells #[.pointer (some ⟨b, 0, none⟩)] 51)) := (ho3.setCell (.inr hwbi) _).alloc _
  obtain ⟨w4, hw4⟩ : ∃ w4, (w3.setCell ⟨bi, 0, none⟩ (.bool true)).alloc (.cells #[.pointer (some ⟨b, 0, none⟩)] 51) = w4 := ⟨_, rfl⟩
  rw [hw4] at hW4c hW4b hW4v hW4p hW4r hW4o
  have hcb : c ≠ b := fun e => by have := HB2.out.lt; omega
  have hcp : w3.heap.size ≠ c := fun e => by have := hc3.lt; omega
  have hbase4 : base ≤ w4.heap.size := by have := HVV.out.2.2.2.2; have := hW4o.size; omega
  have CC := HC.out w4 c _ bi hW4o hwc hW4c hW4r hbase4
  have TOP := Lib.hid (BcallCont_top (Q := fun w' => ContR w4 base c ⟨.nilIface, .slice A1 L1 k1, false, .pointer none, ys.length, m, asn, .pointer (some ⟨bi, 0, none⟩)⟩ (ys ++ List.replicate m 0) o (.returned (.tuple #[])) w')
    b c bi F cap _ w3 (HFF.out) hb3 rfl hv3 (by rw [hw4]; exact CC.mono fun e w' h => ⟨h.1, h.1 ▸ h⟩) (fun w' h => by
      have hoc := h.2.1
      refine ⟨hW4p.only hoc ?_, ⟨_, hW4b.only hoc ?_, rfl⟩, true, hW4v.only hoc ?_⟩
      · simp only [List.mem_cons, not_or]
        exact ⟨hcp, hW4r.ne hW4p (by decide)⟩
      · simp only [List.mem_cons, not_or]
        exact ⟨Ne.symm hcb, hW4r.ne hW4b (by decide)⟩
      · simp only [List.mem_cons, not_or]
        exact ⟨Ne.symm hcbi, hW4r.ne hW4v (by decide)⟩))
  have HW4 := Lib.hid (And.intro hW4c (And.intro hW4b (And.intro hW4v (And.intro hW4r hW4o))))
  have HNE := Lib.hid (And.intro hcb (And.intro hcbi (And.intro hbbi (And.intro hwc hwbi))))
  clear hv3 hb3 hc3 hr3 ho3 hw3 hw4 hW4c hW4b hW4v hW4p hW4r hW4o hcb hcp hbase4 CC hbir hbr2 hc HB2 HV2 HR2 HO2 HZ2 hwc hwbi hcbi hbbi
  refine TOP.out.mono ?_
  rintro e w5 ⟨rfl, w6, hcr, hw7⟩
  obtain ⟨hcb, hcbi, hbbi, hwc, hwbi⟩ := HNE.out
  obtain ⟨k4c, k4b, k4v, k4r, k4o⟩ := HW4.out
  obtain ⟨_, hoc, hco⟩ := hcr
  have hb7 := (k4b.only hoc (by simp only [List.mem_cons, not_or]; exact ⟨Ne.symm hcb, k4r.ne k4b (by decide)⟩)).far (p := ⟨bi, 0, none⟩) (Ne.symm hbbi) (.bool false)
  have hown1 : ∀ i ∈ own (.slice A1 L1 k1), i < w.heap.size → i ∈ own v.res := by
    intro i hi hlt
    rcases HOW1.out with h | h
    · rw [own, ← h]
      exact hi
    · have := h i hi
      omega
  have ho7 : Only (b :: own v.res) w (w6.setCell ⟨bi, 0, none⟩ (.bool false)) := (k4o.then hoc (by
    intro i hi hlt
    rcases List.mem_cons.1 hi with rfl | hi
    · omega
    · exact List.mem_cons_of_mem _ (hown1 i hi hlt))).setCell (.inr hwbi) _
  rw [← hw7] at hb7 ho7
  obtain ⟨he, hch, hf, hinc, hbase⟩ := HVV.out
  obtain ⟨hm1, hm4, ham⟩ := HM.out
  cases o with
  | none =>
    obtain ⟨T, u, vc', hk6, hce, hcch⟩ := hco
    have hk7 := hk6.far (p := ⟨bi, 0, none⟩) hcbi (.bool false)
    rw [← hw7] at hk7
    have FL := Lib.hid (flush_core (S := fun W => w5 = W) (Q := fun w' => Only [b] w5 w' ∧ Bld w' b { ({ ({ ({ v with res := .slice A1 L1 k1 } : Bv) with inc := .pointer (some ⟨bi, 0, none⟩) } : Bv) with child := .pointer (some ⟨c, 0, none⟩) } : Bv) with child := .pointer none, err := .iface T u }) b c _ w5 hb7 rfl (flush_none c vc' w5 hk7 hcch)
      (fun W hW => .inr ⟨_, vc', T, u, hW ▸ hb7, rfl, Ne.symm hcb, hW ▸ hk7, hce, fun w' h1 h2 => ⟨hW ▸ h1, h2⟩⟩))
    have HO7 := Lib.hid ho7
    have HVZ := Lib.hid (And.intro he (And.intro hch (And.intro hf (And.intro hinc hbase))))
    clear hb7 ho7 hk7 hk6 hce hcch hw7 hoc k4c k4b k4v k4r k4o hown1 he hch hf hinc hbase hm1 hm4 ham hcb hcbi hbbi hwc hwbi
    go_wp2_with fail
    refine FL.out.mono ?_
    rintro e w8 ⟨rfl, ho8, hb8⟩
    have b3 := hb8.c3
    have HB8 := Lib.hid hb8
    have HO8 := Lib.hid ho8
    clear hb8 ho8
    go_wp2_with fail
    go_end0
    obtain ⟨he, hch, hf, hinc, hbase⟩ := HVZ.out
    refine ⟨rfl, HO7.out.then HO8.out (fun i hi _ => by simp at hi; simp [hi]), T, u, .slice A1 L1 k1, .pointer (some ⟨bi, 0, none⟩), ?_⟩
    have := HB8.out
    rw [show ({ v with err := .iface T u, res := .slice A1 L1 k1, inc := .pointer (some ⟨bi, 0, none⟩) } : Bv) = { v with err := .iface T u, res := .slice A1 L1 k1, child := .pointer none, inc := .pointer (some ⟨bi, 0, none⟩) } by rw [← hch]]
    exact this
  | some cs =>
    obtain ⟨r', hk6, hr6, hown6⟩ := hco
    have hv6 := k4v.only hoc (by simp only [List.mem_cons, not_or]; exact ⟨Ne.symm hcbi, k4r.ne k4v (by decide)⟩)
    have hbir : bi ∉ own r' := hr6.ne hv6 (by decide)
    have hk7 := hk6.far (p := ⟨bi, 0, none⟩) hcbi (.bool false)
    have hr7 : Row (w6.setCell ⟨bi, 0, none⟩ (.bool false)) base r' (ys ++ List.replicate m 0 ++ cs) := Row.only (l := [bi]) hr6 ((Only.refl _ _).setCell (.inl (by simp)) _) (by simpa using hbir)
    rw [← hw7] at hk7 hr7
    have hown7 : ∀ i ∈ own r', i < w.heap.size → i ∈ own v.res := by
      intro i hi hlt
      rcases hown6 with h | h
      · refine hown1 i ?_ hlt
        show i ∈ (Value.slice A1 L1 k1).ownBlock.toList
        rw [← h]
        exact hi
      · have h1 := h i hi
        have h2 := k4o.size
        omega
    have hsz := ho7.size
    have FL := Lib.hid (flush_core (S := fun W => w5 = W) (Q := fun w' => Flushed w5 base b c { ({ ({ v with res := .slice A1 L1 k1 } : Bv) with inc := .pointer (some ⟨bi, 0, none⟩) } : Bv) with child := .pointer (some ⟨c, 0, none⟩) } ys cs r' (fl asn m cs.length) w') b c _ w5 hb7 rfl (flush_none c _ w5 hk7 rfl)
      (fun W hW => by subst hW; exact .inl ⟨base, ys, cs, asn, m, .pointer (some ⟨bi, 0, none⟩), r', { ({ ({ v with res := .slice A1 L1 k1 } : Bv) with inc := .pointer (some ⟨bi, 0, none⟩) } : Bv) with child := .pointer (some ⟨c, 0, none⟩) }, hb7, rfl, hf, Ne.symm hcb, ⟨hk7, hr7⟩, hm1, hm4, ham, HL.out.2 cs rfl, by omega, fun w' h1 => h1⟩))
    have HO7 := Lib.hid ho7
    have HVZ := Lib.hid (And.intro he (And.intro hch (And.intro hf (And.intro hinc hbase))))
    have HOWN7 := Lib.hid hown7
    have HWC := Lib.hid hwc
    clear hb7 ho7 hk7 hk6 hr6 hr7 hv6 hbir hown6 hown7 hw7 hoc k4c k4b k4v k4r k4o hown1 he hch hf hinc hbase hm1 hm4 ham hcb hcbi hbbi hwc hwbi hsz
    go_wp2_with fail
    refine FL.out.mono ?_
    rintro e w8 ⟨rfl, ho8, hb8⟩
    have HO8 : Hid (Only (b :: own v.res) w w8) := Lib.hid (HO7.out.then ho8 (fun i hi hlt => by
      simp only [List.mem_cons] at hi
      rcases hi with rfl | rfl | hi
      · simp
      · have := HWC.out; omega
      · exact List.mem_cons_of_mem _ (HOWN7.out i hi hlt)))
    clear ho8
    cases hfl : fl asn m cs.length with
    | none =>
      rw [hfl] at hb8
      obtain ⟨T, u, hb8⟩ := hb8
      have b3 := hb8.c3
      have HB8 := Lib.hid hb8
      have HFL := Lib.hid hfl
      clear hb8 hfl
      go_wp2_with fail
      go_end0
      obtain ⟨he, hch, hf, hinc, hbase⟩ := HVZ.out
      refine ⟨rfl, HO8.out, ?_⟩
      rw [show ((some cs).bind fun cs => (fl asn m cs.length).map (· ++ cs)) = none by simp [HFL.out]]
      refine ⟨T, u, .slice A1 L1 k1, .pointer (some ⟨bi, 0, none⟩), ?_⟩
      have := HB8.out
      rw [show ({ v with err := .iface T u, res := .slice A1 L1 k1, inc := .pointer (some ⟨bi, 0, none⟩) } : Bv) = { v with err := .iface T u, res := .slice A1 L1 k1, child := .pointer none, inc := .pointer (some ⟨bi, 0, none⟩) } by rw [← hch]]
      exact this
    | some hs =>
      rw [hfl] at hb8
      obtain ⟨r8, hb8, hr8, _⟩ := hb8
      have b3 := hb8.c3
      have HB8 := Lib.hid hb8
      have HR8 := Lib.hid hr8
      have HFL := Lib.hid hfl
      clear hb8 hfl hr8
      go_wp2_with fail
      go_end0
      obtain ⟨he, hch, hf, hinc, hbase⟩ := HVZ.out
      refine ⟨rfl, HO8.out, ?_⟩
      rw [show ((some cs).bind fun cs => (fl asn m cs.length).map (· ++ cs)) = some (hs ++ cs) by simp [HFL.out]]
      refine ⟨r8, .pointer (some ⟨bi, 0, none⟩), ?_, ?_⟩
      · have := HB8.out
        rw [show ({ v with res := r8, inc := .pointer (some ⟨bi, 0, none⟩) } : Bv) = { v with res := r8, child := .pointer none, inc := .pointer (some ⟨bi, 0, none⟩) } by rw [← hch]]
        exact this
      · rw [← List.append_assoc]
        exact HR8.out
end Go.Proofs.Ytlnoeipbbncnfaa
