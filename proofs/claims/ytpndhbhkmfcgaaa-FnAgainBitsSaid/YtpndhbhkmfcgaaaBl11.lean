/- Strings of bits added: contracts. -/
import Derived.Test.YtpndhbhkmfcgaaaBl10
namespace Go.Proofs.Ytpndhbhkmfcgaaa
open Go.RowKit

theorem bits_cont (x : Nat) (A : Option Addr) (c0 : Nat) (xs : List Int) (w : World) (base b : Nat) (vres : Value) (hx : ∀ W, Only (b :: own vres) w W → Var W x 22 (.slice A xs.length c0) ∧ Rd W base A xs) (hbw : base ≤ w.heap.size) (hl : xs.length ≤ 4194304) :
    ContOK w base b vres 39 #[.pointer (some ⟨x, 0, none⟩)] (some (0 :: xs)) := by
  intro W c vc zs ho hc hb he hch hf hr hz hbase
  show Calls Try.prog 39 #[.pointer (some ⟨c, 0, none⟩), .pointer (some ⟨x, 0, none⟩)] W _
  obtain ⟨hv0, hrd0⟩ := hx W ho
  have hxl : x ∉ c :: own vc.res := by
    simp only [List.mem_cons, not_or]
    refine ⟨?_, hr.ne hv0 (by decide)⟩
    rintro rfl
    have h1 : W.heap[x]? = _ := hv0
    have h2 : W.heap[x]? = _ := hb
    rw [h1] at h2
    simp at h2
  have hlow : ∀ i ∈ c :: own vc.res, base ≤ i := by
    intro i hi
    rcases List.mem_cons.1 hi with rfl | hi
    · omega
    · exact hr.low i hi
  have H1 := Lib.hid (BAddUint8_any c vc 0 zs W base hb he hch hf hr hbase (by omega) (by decide) (by decide))
  have H2 := Lib.hid (fun r2 w2 (hb2 : Bld w2 c { vc with res := r2 }) (hr2 : Row w2 base r2 (zs ++ [0])) (hk : Only (c :: own vc.res) W w2) => BAddBytes_any c { vc with res := r2 } A xs.length c0 xs (zs ++ [0]) w2 base base hb2 he hch hf hr2 (hrd0.only hk hlow hbase) rfl (by have := hk.size; omega) (by simp; omega))
  have HO := Lib.hid (And.intro hv0 hxl)
  clear hx ho hb he hch hf hr hz hv0 hc hbase hl hxl hlow hrd0 hbw
  go_enter Try.func39, Try.ntmps39
  go_wp2_with fail
  refine H1.out.mono ?_
  rintro e w2 ⟨r2, rfl, hb2, hr2, hk2, hw2⟩
  have hv2 := HO.out.1.only hk2 HO.out.2
  have hcell := hv2.cell
  have H3 := Lib.hid (H2.out r2 w2 hb2 hr2 hk2)
  have HK := Lib.hid (And.intro hk2 hw2)
  clear hb2 hr2 hk2 hw2 hv2 H2 H1
  go_wp2_with fail
  refine H3.out.mono ?_
  rintro e w3 ⟨r3, rfl, h1, h2, h3, h4⟩
  have HQ : Hid (ContR W base c vc zs (some (0 :: xs)) (.returned (.tuple #[])) w3) := Lib.hid (by
    obtain ⟨hk2, hw2⟩ := HK.out
    refine ⟨rfl, hk2.then h3 ?_, r3, h1, by simpa using h2, ?_⟩
    · intro k hk hlt
      simp only [List.mem_cons] at hk ⊢
      rcases hk with rfl | hk
      · exact .inl rfl
      · rcases hw2 with hw | hw
        · right
          simp only [own] at hk ⊢
          rw [← hw]
          exact hk
        · exact absurd (hw k hk) (by omega)
    · rcases h4 with h4 | h4
      · rcases hw2 with hw | hw
        · exact .inl (h4.trans hw)
        · refine .inr fun k hk => hw k ?_
          simp only [own] at hk ⊢
          rw [← h4]
          exact hk
      · exact .inr fun k hk => Nat.le_trans hk2.size (h4 k hk))
  clear h1 h2 h3 h4 H3
  go_wp2_with fail
  go_end0
  exact HQ.out

theorem BBits_any (b : Nat) (v : Bv) (A : Option Addr) (c0 : Nat) (xs ys : List Int) (w : World) (base : Nat) (h : Bld w b v) (he : v.err = .nilIface) (hch : v.child = .pointer none) (hf : v.fixed = false) (hinc : v.inc = .pointer none) (hr : Row w base v.res ys) (hb : base ≤ w.heap.size)
    (hl : ys.length ≤ 2143289000) (hxs : xs.length ≤ 4194304) (hrd : ∀ W, Only (b :: own v.res) w W → Rd W base A xs) :
    Calls Try.prog 27 #[.pointer (some ⟨b, 0, none⟩), .slice A xs.length c0] w (DoneR w base b v ys (elem 3 (0 :: xs))) := by
  have H := Lib.hid (BAddASN1_any b v 3 39 #[.pointer (some ⟨w.heap.size, 0, none⟩)] ys (some (0 :: xs)) _ base (by decide) (fun _ _ => rfl) (h.alloc _) he hch hf hinc (hr.alloc _) (by simp; omega) (by omega) (fun cs hc => by obtain rfl := Option.some.inj hc; simp; omega)
    (bits_cont w.heap.size A c0 xs (w.alloc (.cells #[.slice A xs.length c0] 22)) base b v.res (fun W ho => ⟨fresh_holds h hr _ _ W ho, hrd W (((Only.refl _ _).alloc _).trans ho)⟩) (by simp; omega) hxs))
  clear h he hch hf hinc hr hb hl hxs hrd
  have hmf : ∀ (fn : Fn) (first cap : Array Value) (w : World), (Instr.makeFunc fn first cap).run Try.prog w = .ok (.func fn first cap) w := fun _ _ _ _ => rfl
  go_enter Try.func27, Try.ntmps27
  go_wp2_with fail
  refine H.out.mono ?_
  intro e w' hd
  have hd2 : DoneR w base b v ys (elem 3 (0 :: xs)) e w' := DoneR.of_alloc hd
  obtain ⟨rfl, h1⟩ := hd2
  have HQ := Lib.hid h1
  clear h1 H hd
  go_wp2_with fail
  go_end0
  exact ⟨rfl, HQ.out⟩

end Go.Proofs.Ytpndhbhkmfcgaaa
