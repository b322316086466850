/- Integers, truths, strings of bits added: contracts. -/
import Derived.Test.YtpndhbhkmfcgaaaBl9
namespace Go.Proofs.Ytpndhbhkmfcgaaa
open Go.RowKit

/-- A fresh variable stays, whatever a builder's continuation does. -/
theorem fresh_holds {w : World} {b base : Nat} {v : Bv} {ys : List Int} (h : Bld w b v) (hr : Row w base v.res ys) (val : Value) (T : TypeId) : ∀ W, Only (b :: own v.res) (w.alloc (.cells #[val] T)) W → Var W w.heap.size T val := by
  intro W ho
  refine (Var.new w _ _).only ho ?_
  simp only [List.mem_cons, not_or]
  refine ⟨fun e => by have := h.lt; omega, ?_⟩
  intro hm
  rcases hr.2.2 with ⟨e, _⟩ | ⟨g, _, _, e, _, hg, _⟩
  · rw [e] at hm; simp [own, Value.ownBlock] at hm
  · rw [e] at hm
    simp [own, Value.ownBlock] at hm
    have := lt_of_block hg
    omega

theorem bool_cont (x : Nat) (v : Bool) (w : World) (base b : Nat) (vres : Value) (hx : ∀ W, Only (b :: own vres) w W → Var W x 4 (.bool v)) :
    ContOK w base b vres 48 #[.pointer (some ⟨x, 0, none⟩)] (some [if v then 255 else 0]) := by
  intro W c vc zs ho hc hb he hch hf hr hz hbase
  have hv := hx W ho
  have hcell := hv.cell
  show Calls Try.prog 48 #[.pointer (some ⟨c, 0, none⟩), .pointer (some ⟨x, 0, none⟩)] W _
  have H2 := Lib.hid (fun y (hy : 0 ≤ y ∧ y ≤ 255) => BAddUint8_any c vc y zs W base hb he hch hf hr hbase (by omega) hy.1 hy.2)
  clear hx ho hb he hch hf hr hz hv hc hbase
  cases v with
  | true =>
    go_enter Try.func48, Try.ntmps48
    go_wp2_with fail
    refine (H2.out 255 (by decide)).mono ?_
    intro e w3 h
    have HQ : Hid (ContR W base c vc zs (some [255]) e w3) := Lib.hid h.cont
    obtain ⟨r, rfl, _⟩ := h
    clear H2
    go_wp2_with fail
    go_end0
    exact HQ.out
  | false =>
    go_enter Try.func48, Try.ntmps48
    go_wp2_with fail
    refine (H2.out 0 (by decide)).mono ?_
    intro e w3 h
    have HQ : Hid (ContR W base c vc zs (some [0]) e w3) := Lib.hid h.cont
    obtain ⟨r, rfl, _⟩ := h
    clear H2
    go_wp2_with fail
    go_end0
    exact HQ.out






theorem BBool_any (b : Nat) (v : Bv) (x : Bool) (ys : List Int) (w : World) (base : Nat) (h : Bld w b v) (he : v.err = .nilIface) (hch : v.child = .pointer none) (hf : v.fixed = false) (hinc : v.inc = .pointer none) (hr : Row w base v.res ys) (hb : base ≤ w.heap.size)
    (hl : ys.length ≤ 2147483600) :
    Calls Try.prog 32 #[.pointer (some ⟨b, 0, none⟩), .bool x] w (DoneR w base b v ys (elem 1 [if x then 255 else 0])) := by
  have H := Lib.hid (BAddASN1_any b v 1 48 #[.pointer (some ⟨w.heap.size, 0, none⟩)] ys (some [if x then 255 else 0]) _ base (by decide) (fun _ _ => rfl) (h.alloc _) he hch hf hinc (hr.alloc _) (by simp; omega) (by omega) (fun cs hc => by obtain rfl := Option.some.inj hc; simp; omega)
    (bool_cont w.heap.size x (w.alloc (.cells #[.bool x] 4)) base b v.res (fresh_holds h hr _ _)))
  clear h he hch hf hinc hr hb hl
  have hmf : ∀ (fn : Fn) (first cap : Array Value) (w : World), (Instr.makeFunc fn first cap).run Try.prog w = .ok (.func fn first cap) w := fun _ _ _ _ => rfl
  cases x with
  | true =>
    go_enter Try.func32, Try.ntmps32
    go_wp2_with fail
    refine H.out.mono ?_
    intro e w' hd
    have hd2 : DoneR w base b v ys (elem 1 [if true then 255 else 0]) e w' := DoneR.of_alloc hd
    obtain ⟨rfl, h1⟩ := hd2
    have HQ := Lib.hid h1
    clear h1 H hd
    go_wp2_with fail
    go_end0
    exact ⟨rfl, HQ.out⟩
  | false =>
    go_enter Try.func32, Try.ntmps32
    go_wp2_with fail
    refine H.out.mono ?_
    intro e w' hd
    have hd2 : DoneR w base b v ys (elem 1 [if false then 255 else 0]) e w' := DoneR.of_alloc hd
    obtain ⟨rfl, h1⟩ := hd2
    have HQ := Lib.hid h1
    clear h1 H hd
    go_wp2_with fail
    go_end0
    exact ⟨rfl, HQ.out⟩





theorem ImAddBool_any (x : Bool) (w : World)  : Calls Try.prog 18 #[.bool x] w (Outs w (elem 1 [if x then 255 else 0])) := by
  have HL : Hid ([if x then (255 : Int) else 0].length ≤ 9) := Lib.hid (by simp)
  have HY := HL
  have H := Lib.hid (BBool_any w.heap.size Bv.zero x [] _ w.heap.size (Bld.new w Bv.zero) rfl rfl rfl rfl (Row.nil _ _) (by simp) (by simp))
  clear HY
  cases x with
  | true =>
    go_enter Try.func18, Try.ntmps18
    go_wp2_with fail
    refine H.out.mono ?_
    intro e w1 hd
    obtain rfl := hd.1
    have H2 := Lib.hid (bytesOf_done hd (w := w) ((Only.refl _ _).alloc _) (by simp) (by
      intro zs hz
      have := elem_len hz
      have := HL.out
      omega))
    clear hd H
    go_wp2_with fail
    refine H2.out.mono ?_
    rintro e w2 ⟨A2, c2, ys, ok, rfl, h1⟩
    have HQ := Lib.hid h1
    clear h1 H2
    go_wp2_with fail
    go_ret2
    exact ⟨A2, c2, ys, ok, rfl, HQ.out⟩
  | false =>
    go_enter Try.func18, Try.ntmps18
    go_wp2_with fail
    refine H.out.mono ?_
    intro e w1 hd
    obtain rfl := hd.1
    have H2 := Lib.hid (bytesOf_done hd (w := w) ((Only.refl _ _).alloc _) (by simp) (by
      intro zs hz
      have := elem_len hz
      have := HL.out
      omega))
    clear hd H
    go_wp2_with fail
    refine H2.out.mono ?_
    rintro e w2 ⟨A2, c2, ys, ok, rfl, h1⟩
    have HQ := Lib.hid h1
    clear h1 H2
    go_wp2_with fail
    go_ret2
    exact ⟨A2, c2, ys, ok, rfl, HQ.out⟩

end Go.Proofs.Ytpndhbhkmfcgaaa
