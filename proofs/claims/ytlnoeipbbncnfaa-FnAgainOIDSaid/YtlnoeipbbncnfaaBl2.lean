/- The builder's numbers and bytes, and what it has: contracts. -/
import Derived.Test.YtlnoeipbbncnfaaSpB
import Derived.Deep.RegionWith
import Derived.Test.YtlnoeipbbncnfaaRd1
import Derived.Deep.RegionHeld3
namespace Go.Proofs.Ytlnoeipbbncnfaa
open Go.RowKit

theorem Added.of_alloc {w w' : World} {o : Obj} {base b : Nat} {v : Bv} {ys xs : List Int} {e : Ending} (h : Added (w.alloc o) base b v ys xs e w') : Added w base b v ys xs e w' := by
  obtain ⟨r, rfl, h1, h2, h3, h4⟩ := h
  refine ⟨r, rfl, h1, h2, ((Only.refl _ _).alloc o).trans h3, ?_⟩
  rcases h4 with h4 | h4
  · exact .inl h4
  · refine .inr fun k hk => ?_
    have := h4 k hk
    simp at this
    omega

theorem Badd_lit (b : Nat) (v : Bv) (ys L : List Int) (w : World) (base : Nat) (h : Bld w b v) (he : v.err = .nilIface) (hch : v.child = .pointer none) (hf : v.fixed = false)
    (hr : Row w base v.res ys) (hb : base ≤ w.heap.size) (hx : Byt L) (hl : ys.length + L.length ≤ 140737488355328) :
    Calls Try.prog 40 #[.pointer (some ⟨b, 0, none⟩), .slice (some ⟨w.heap.size, 0, none⟩) L.length L.length] (w.alloc (.cells (L.map (Value.int .u8)).toArray 5)) (Added w base b v ys L) :=
  (Badd_any b v _ _ _ L ys _ base _ (h.alloc _) he hch hf (hr.alloc _) ((Row.lit w w.heap.size L (Nat.le_refl _) hx (by unfold maxLen; omega)).rd rfl) rfl (by simp; omega) hl).mono fun _ _ hq => hq.of_alloc

theorem BAddUint8_any (b : Nat) (v : Bv) (x : Int) (ys : List Int) (w : World) (base : Nat) (h : Bld w b v) (he : v.err = .nilIface) (hch : v.child = .pointer none) (hf : v.fixed = false)
    (hr : Row w base v.res ys) (hb : base ≤ w.heap.size) (hl : ys.length + 8 ≤ 140737488355328) (_h0 : 0 ≤ x) (h1 : x ≤ 255) :
    Calls Try.prog 38 #[.pointer (some ⟨b, 0, none⟩), .int .u8 x] w (Added w base b v ys (bigB x 1)) := by
  have hx : Byt [x] := by
    intro y hy
    simp only [List.mem_cons, List.not_mem_nil, or_false] at hy
    omega
  have hbig : bigB x 1 = [x] := by (simp [bigB] <;> omega)
  have H2 : Hid (Calls Try.prog 40 #[.pointer (some ⟨b, 0, none⟩), .slice (some ⟨w.heap.size, 0, none⟩) 1 1] (w.alloc (.cells #[.int .u8 (x)] 5)) (Added w base b v ys (bigB x 1))) := Lib.hid (by
    rw [hbig]
    exact Badd_lit b v ys [x] w base h he hch hf hr hb hx (by simp; omega))
  clear h he hch hf hr hb hl hx hbig
  go_enter Try.func38, Try.ntmps38
  go_wp2_with fail
  refine H2.out.mono ?_
  rintro e w' ⟨r, rfl, h1⟩
  have HQ := Lib.hid h1
  clear h1 H2
  go_wp2_with fail
  go_end0
  exact ⟨r, rfl, HQ.out⟩








/-- What a builder hands out: bytes, and whether there is no error. -/
def Outs (w : World) (o : Option (List Int)) (e : Ending) (w' : World) : Prop :=
  ∃ A c ys ok, e = .returned (.tuple #[.slice A ys.length c, .bool ok]) ∧ Rd w' w'.heap.size A ys ∧ Only [] w w' ∧ ys.length ≤ c ∧ c ≤ maxLen ∧ (match o with | some xs => ok = true ∧ ys = xs | none => ok = false)
theorem BBytes_ok (b : Nat) (v : Bv) (ys : List Int) (w : World) (base : Nat) (h : Bld w b v) (he : v.err = .nilIface) (ho : v.off = 0) (hr : Row w base v.res ys) :
    Calls Try.prog 35 #[.pointer (some ⟨b, 0, none⟩)] w fun e w' => (∃ A c, e = .returned (.tuple #[.slice A ys.length c, .nilIface]) ∧ Rd w' w'.heap.size A ys ∧ ys.length ≤ c ∧ c ≤ maxLen) ∧ Only [] w w' := by
  obtain ⟨Ar, cr, hres, hrc, hrm, hrb⟩ := hr.form
  have h0 := h.c0
  have h1 := h.c1
  have h4 := h.c4
  rw [he] at h0
  rw [hres] at h1
  rw [ho] at h4
  rw [hres] at hr
  have HR := Lib.hid (hr.rd rfl)
  have HC := Lib.hid (And.intro hrc hrm)
  have hle : ¬ ((cr : Int) < 0) := by omega
  have h00 : (0 : Int) ≤ (ys.length : Int) := by omega
  clear h he ho hr hres hrb hrc hrm
  go_enter Try.func35, Try.ntmps35
  go_wp2_with fail
  go_quiet (fail)
  go_wp2_with fail
  go_ret2
  exact ⟨⟨Ar, cr, rfl, HR.out, HC.out.1, HC.out.2⟩, (Only.refl _ _).drewN _⟩
theorem BBytes_no (b : Nat) (v : Bv) (T : TypeId) (u : Value) (w : World) (h : Bld w b v) (he : v.err = .iface T u) :
    Calls Try.prog 35 #[.pointer (some ⟨b, 0, none⟩)] w fun e w' => e = .returned (.tuple #[.slice none 0 0, .iface T u]) ∧ Only [] w w' := by
  have h0 := h.c0
  rw [he] at h0
  clear h he
  go_enter Try.func35, Try.ntmps35
  go_wp2_with fail
  go_quiet (fail)
  go_wp2_with fail
  go_ret2
  exact ⟨rfl, (Only.refl _ _).drewN _⟩
theorem bytesOf_ok (b : Nat) (v : Bv) (ys : List Int) (w : World) (base : Nat) (h : Bld w b v) (he : v.err = .nilIface) (ho : v.off = 0) (hr : Row w base v.res ys) (hl : ys.length ≤ 140737488355328) :
    Calls Try.prog 24 #[.pointer (some ⟨b, 0, none⟩)] w (Outs w (some ys)) := by
  have H := Lib.hid (BBytes_ok b v ys w base h he ho hr)
  have HL := Lib.hid hl
  have HB := Lib.hid hr.1
  clear h he ho hr hl
  go_enter Try.func24, Try.ntmps24
  go_wp2_with fail
  refine H.out.mono ?_
  rintro e w1 ⟨⟨A, c, rfl, hrd, hc, hm⟩, hk⟩
  have C := Lib.hid (fun W hW => copied_any A ys.length c ys W w1.heap.size (hrd.keep hW) rfl HL.out)
  have K := Lib.hid hk
  clear hrd hc hm hk H
  go_wp2_with fail
  go_region_with (go_at_call 20; refine (C.out w1.drew (fun _ _ => rfl)).mono ?_; rintro e w2 ⟨A2, c2, rfl, hc2, hm2, hown2, hk2⟩)
  all_goals
    have R2 := Lib.hid (Rd.of_own HB.out hown2)
    have K2 : Hid (Only [] w w2) := Lib.hid (K.out.drew.trans hk2)
    have C2 := Lib.hid (And.intro hc2 hm2)
    clear hown2 hk2 hc2 hm2
    go_wp2_with fail
    go_ret2
    exact ⟨A2, c2, ys, true, rfl, R2.out, K2.out, C2.out.1, C2.out.2, rfl, rfl⟩
theorem bytesOf_no (b : Nat) (v : Bv) (T : TypeId) (u : Value) (w : World) (h : Bld w b v) (he : v.err = .iface T u) :
    Calls Try.prog 24 #[.pointer (some ⟨b, 0, none⟩)] w (Outs w none) := by
  have H := Lib.hid (BBytes_no b v T u w h he)
  clear h he
  go_enter Try.func24, Try.ntmps24
  go_wp2_with fail
  refine H.out.mono ?_
  rintro e w1 ⟨rfl, hk⟩
  have C := Lib.hid (fun W => copied_any none 0 0 [] W 0 (Rd.nil _ _ _) rfl (by simp))
  have K := Lib.hid hk
  clear hk H
  go_wp2_with fail
  go_region_with (go_at_call 20; refine (C.out w1.drew).mono ?_; rintro e w2 ⟨A2, c2, rfl, hc2, hm2, hown2, hk2⟩)
  all_goals
    have K2 : Hid (Only [] w w2) := Lib.hid (K.out.drew.trans hk2)
    have C2 := Lib.hid (And.intro hc2 hm2)
    clear hown2 hk2 hc2 hm2
    go_wp2_with fail
    go_ret2
    exact ⟨A2, c2, [], false, rfl, Rd.nil _ _ _, K2.out, C2.out.1, C2.out.2, rfl⟩







end Go.Proofs.Ytlnoeipbbncnfaa
