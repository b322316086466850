/- AddASN1ObjectIdentifier and the thin package's AddOID: contracts. -/
import Derived.Test.YtlnoeipbbncnfaaBl13
namespace Go.Proofs.Ytlnoeipbbncnfaa
open Go.RowKit

theorem BOID_any (b : Nat) (v : Bv) (v0 : Value) (xs ys : List Int) (w : World) (base base' : Nat) (h : Bld w b v) (he : v.err = .nilIface) (hch : v.child = .pointer none) (hf : v.fixed = false) (hinc : v.inc = .pointer none) (hr : Row w base v.res ys) (hb : base ≤ w.heap.size)
    (hl : ys.length ≤ 1073741824) (hx : RowI w base' v0 xs) (hxl : xs.length ≤ 4194304) (hm : ∀ v ∈ xs, v ≤ 2147483647) :
    Calls Try.prog 23 #[.pointer (some ⟨b, 0, none⟩), v0] w (DoneR w base b v ys ((oidCs xs).map (wrapped 6))) := by
  obtain ⟨Ax, cx, rfl, _, _, _⟩ := hx.form
  have H := Lib.hid (BAddASN1_any b v 6 31 #[.pointer (some ⟨w.heap.size, 0, none⟩)] ys (oidCs xs) _ base (by decide) (fun _ _ => rfl) (h.alloc _) he hch hf hinc (hr.alloc _) (by simp; omega) (by omega) (fun cs hc => by have := oidCs_len hc; omega)
    (oid_cont w.heap.size _ xs (w.alloc (.cells #[.slice Ax xs.length cx] 41)) base b base' v.res (fun W ho => holdsI_step (by decide) (by decide) (Var.new w 41 _) (hx.only (l := []) ((Only.refl _ _).alloc _) (by simp)) (h.alloc _) (hr.alloc _) ho) hxl hm))
  clear h he hch hf hinc hr hb hl hx hxl hm
  have hmf : ∀ (fn : Fn) (first cap : Array Value) (w : World), (Instr.makeFunc fn first cap).run Try.prog w = .ok (.func fn first cap) w := fun _ _ _ _ => rfl
  go_enter Try.func23, Try.ntmps23
  go_wp2_with fail
  refine H.out.mono ?_
  intro e w' hd
  have hd2 : DoneR w base b v ys ((oidCs xs).map (wrapped 6)) e w' := DoneR.of_alloc hd
  obtain ⟨rfl, h1⟩ := hd2
  have HQ := Lib.hid h1
  clear h1 H hd
  go_wp2_with fail
  go_end0
  exact ⟨rfl, HQ.out⟩

theorem ImAddOID_any (A : Option Addr) (n c : Nat) (xs : List Int) (w : World) (B : Nat) (h : RdI w B A xs) (hn : n = xs.length) (hB : B ≤ w.heap.size) (hxl : xs.length ≤ 4194304) (hm : ∀ v ∈ xs, v ≤ 2147483647) :
    Calls Try.prog 12 #[.slice A n c] w (Outs w ((oidCs xs).map (wrapped 6))) := by
  subst hn
  have HC := Lib.hid (h.alloc hB (.cells Bv.zero.cells 54))
  have HX := Lib.hid (And.intro hxl hm)
  clear h hxl hm
  go_enter Try.func12, Try.ntmps12
  go_wp2_with (at_builtin; refine wpList_rowI rfl _ _ rfl rfl w.heap.size B (.slice none 0 0) [] xs A xs.length c rfl rfl (RowI.nil _ _) HC.out rfl ?c4 ?c5 ?_)
  case c4 => simp
  case c5 => have := HX.out.1; simp; omega
  intro v' w1 hr1 hk1 _
  obtain ⟨A1, c1, rfl, _, _, _⟩ := hr1.form
  have hk1' : Only [] (w.alloc (.cells Bv.zero.cells 54)) w1 := hk1
  have H := Lib.hid (BOID_any w.heap.size Bv.zero _ xs [] w1 w.heap.size w.heap.size ((Bld.new w Bv.zero).only hk1' (by simp)) rfl rfl rfl rfl (Row.nil _ _) (by have := hk1'.size; simp at this; omega) (by simp) hr1 HX.out.1 HX.out.2)
  have HK := Lib.hid (((Only.refl [] w).alloc _).trans hk1')
  clear hr1 hk1 hk1'
  go_wp2_with fail
  refine H.out.mono ?_
  intro e w2 hd
  obtain rfl := hd.1
  have H2 := Lib.hid (bytesOf_done hd (w := w) HK.out (Nat.le_refl _) (by
    intro zs hz
    cases hcs : oidCs xs with
    | none => rw [hcs] at hz; cases hz
    | some cs =>
      rw [hcs] at hz
      simp only [Option.map_some, Option.some.injEq] at hz
      have h1 := oidCs_len hcs
      have h2 := hdr_len_le 6 cs.length
      have h3 := HX.out.1
      subst hz
      unfold wrapped
      rw [List.length_append]
      omega))
  clear hd H
  go_wp2_with fail
  refine H2.out.mono ?_
  rintro e w3 ⟨A2, c2, ys, ok, rfl, h1⟩
  have HQ := Lib.hid h1
  clear h1 H2
  go_wp2_with fail
  go_ret2
  exact ⟨A2, c2, ys, ok, rfl, HQ.out⟩
end Go.Proofs.Ytlnoeipbbncnfaa
