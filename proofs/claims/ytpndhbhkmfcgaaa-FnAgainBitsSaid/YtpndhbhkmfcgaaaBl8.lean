/- Continuations that add bytes, and the thin package's functions over them: contracts. -/
import Derived.Test.YtpndhbhkmfcgaaaBl7
namespace Go.Proofs.Ytpndhbhkmfcgaaa
open Go.RowKit

theorem Outs.before {w w1 w' : World} {o : Option (List Int)} {e : Ending} (h : Outs w1 o e w') (hk : Only [] w w1) : Outs w o e w' := by
  obtain ⟨A, c, ys, ok, h1, h2, h3, h4⟩ := h
  exact ⟨A, c, ys, ok, h1, h2, hk.trans h3, h4⟩
theorem bytesOf_done {w W0 w1 : World} {base b : Nat} {o : Option (List Int)} {e1 : Ending} (hd : DoneR W0 base b Bv.zero [] o e1 w1) (h0 : Only [] w W0) (hb : w.heap.size ≤ b) (hlen : ∀ zs, o = some zs → zs.length ≤ 140737488355328) :
    Calls Try.prog 28 #[.pointer (some ⟨b, 0, none⟩)] w1 (Outs w o) := by
  obtain ⟨_, ho, hm⟩ := hd
  have hk : Only [] w w1 := h0.then ho (by
    intro i hi hlt
    simp [own, Bv.zero, Value.ownBlock] at hi
    omega)
  cases o with
  | none =>
    obtain ⟨T, u, r, i, hb1⟩ := hm
    exact (bytesOf_no b _ T u w1 hb1 rfl).mono fun e w' h => h.before hk
  | some zs =>
    obtain ⟨r, i, hb1, hr1⟩ := hm
    exact (bytesOf_ok b _ zs w1 base hb1 rfl rfl hr1 (hlen zs rfl)).mono fun e w' h => h.before hk
/-- An element of a tag, if the tag is one of one byte. -/
def elem (tag : Int) (xs : List Int) : Option (List Int) := if tag % 32 = 31 then none else some (wrapped tag xs)
theorem elem_len {tag : Int} {xs zs : List Int} (h : elem tag xs = some zs) : zs.length ≤ xs.length + 6 := by
  unfold elem at h
  split at h
  · cases h
  · simp only [Option.some.injEq] at h
    subst h
    unfold wrapped
    have := hdr_len_le tag xs.length
    rw [List.length_append]
    omega
/-- A variable that holds bytes, as a continuation finds it. -/
def Holds (w : World) (b : Nat) (vres : Value) (x : Nat) (A : Option Addr) (c : Nat) (xs : List Int) : Prop :=
  ∀ W, Only (b :: own vres) w W → Var W x 22 (.slice A xs.length c) ∧ Rd W W.heap.size A xs





theorem AddASN1_1_cont (x : Nat) (A : Option Addr) (c0 : Nat) (xs : List Int) (w : World) (base b : Nat) (vres : Value) (hx : Holds w b vres x A c0 xs) (hl : xs.length ≤ 4194304) : ContOK w base b vres 34 #[.pointer (some ⟨x, 0, none⟩)] (some xs) := by
  intro W c vc zs ho hc hb he hch hf hr hz hbase
  obtain ⟨hv, hrd⟩ := hx W ho
  have hcell := hv.cell
  show Calls Try.prog 34 #[.pointer (some ⟨c, 0, none⟩), .pointer (some ⟨x, 0, none⟩)] W _
  have CP := Lib.hid (copied_any A xs.length c0 xs W W.heap.size hrd rfl (by omega))
  have HR := Lib.hid (fun w2 (hk : Only [] W w2) (A2 : Option Addr) (c2 : Nat) (h2 : Rd w2 w2.heap.size A2 xs) => BAddBytes_any c vc A2 xs.length c2 xs zs w2 base w2.heap.size (hb.only hk (by simp)) he hch hf (Row.only (l := []) hr hk (by simp)) h2 rfl (by have := hk.size; omega) (by omega))
  have HX := Lib.hid hrd.byt
  clear hx ho hb he hch hf hr hz hv hrd hl hc hbase
  go_enter Try.func34, Try.ntmps34
  go_wp2_with fail
  refine CP.out.mono ?_
  rintro e w2 ⟨A2, c2, rfl, hc2, hm2, hown2, hk2⟩
  have H2 := Lib.hid (HR.out w2 hk2 A2 c2 (Rd.of_own HX.out hown2))
  have K2 := Lib.hid hk2
  clear hc2 hm2 hown2 hk2 CP HR
  go_wp2_with fail
  refine H2.out.mono ?_
  rintro e w3 ⟨r, rfl, h1, h2, h3, h4⟩
  have HQ : Hid (ContR W base c vc zs (some xs) (.returned (.tuple #[])) w3) := Lib.hid ⟨rfl, (K2.out.more (l' := c :: own vc.res) (by simp)).trans h3, r, h1, h2, by
    rcases h4 with h4 | h4
    · exact .inl h4
    · exact .inr fun k hk => Nat.le_trans K2.out.size (h4 k hk)⟩
  clear h1 h2 h3 h4 H2
  go_wp2_with fail
  go_end0
  exact HQ.out






theorem ImAddASN1_any (tag : Int) (A : Option Addr) (n c : Nat) (xs : List Int) (w : World) (B : Nat) (ht : 0 ≤ tag ∧ tag ≤ 255) (h : Rd w B A xs) (hn : n = xs.length) (hB : B ≤ w.heap.size) (hl : xs.length ≤ 4194304) :
    Calls Try.prog 19 #[.int .i64 tag, .slice A n c] w (Outs w (elem tag xs)) := by
  subst hn
  have HX : Holds ((w.alloc (.cells #[.slice A xs.length c] 22)).alloc (.cells Bv.zero.cells 60)) (w.heap.size + 1) Bv.zero.res w.heap.size A c xs := by
    intro W ho
    have hv : Var ((w.alloc (.cells #[.slice A xs.length c] 22)).alloc (.cells Bv.zero.cells 60)) w.heap.size 22 (.slice A xs.length c) := (Var.new w _ _).alloc _
    have hr := (h.alloc hB (.cells #[.slice A xs.length c] 22)).alloc (by simp; omega) (.cells Bv.zero.cells 60)
    have hon : Only [w.heap.size + 1] ((w.alloc (.cells #[.slice A xs.length c] 22)).alloc (.cells Bv.zero.cells 60)) W := ho.more (by intro k hk _; simpa [own, Bv.zero, Value.ownBlock] using hk)
    exact ⟨hv.only hon (by simp), (hr.only hon (by simp; omega) (by simp; omega)).more (by have := hon.size; simp at this; omega)⟩
  have HBN : Bld ((w.alloc (.cells #[.slice A xs.length c] 22)).alloc (.cells Bv.zero.cells 60)) (w.heap.size + 1) Bv.zero := by
    have := Bld.new (w.alloc (.cells #[.slice A xs.length c] 22)) Bv.zero
    rwa [show (w.alloc (.cells #[.slice A xs.length c] 22)).heap.size = w.heap.size + 1 by simp] at this
  have hwt : IntKind.u8.wrap tag = tag := by simp [IntKind.wrap, IntKind.bits, IntKind.signed]; omega
  have H := Lib.hid (show Calls _ _ _ _ (DoneR _ _ _ _ _ (elem tag xs)) from BAddASN1_any (w.heap.size + 1) Bv.zero tag 34 #[.pointer (some ⟨w.heap.size, 0, none⟩)] [] (some xs) _ w.heap.size ht (fun _ _ => rfl) HBN rfl rfl rfl rfl (Row.nil _ _) (by simp; omega) (by simp) (fun cs hc => by obtain rfl := Option.some.inj hc; simp; omega)
    (AddASN1_1_cont w.heap.size A c xs _ w.heap.size (w.heap.size + 1) _ HX hl))
  have HL := Lib.hid hl
  clear h hB hl HX HBN ht
  have hmf : ∀ (fn : Fn) (first cap : Array Value) (w : World), (Instr.makeFunc fn first cap).run Try.prog w = .ok (.func fn first cap) w := fun _ _ _ _ => rfl
  go_enter Try.func19, Try.ntmps19
  go_wp2_with fail
  refine H.out.mono ?_
  intro e w1 hd
  obtain rfl := hd.1
  have H2 := Lib.hid (bytesOf_done hd (w := w) (((Only.refl _ _).alloc _).alloc _) (by simp) (by
    intro zs hz
    have hl := HL.out
    have := elem_len hz
    omega))
  clear hd H
  go_wp2_with fail
  refine H2.out.mono ?_
  rintro e w2 ⟨A2, c2, ys, ok, rfl, h1⟩
  have HQ := Lib.hid h1
  clear h1 H2
  go_wp2_with fail
  go_ret2
  exact ⟨A2, c2, ys, ok, rfl, HQ.out⟩


theorem DoneR.of_alloc {w w' : World} {ob : Obj} {base b : Nat} {v : Bv} {ys : List Int} {o : Option (List Int)} {e : Ending} (h : DoneR (w.alloc ob) base b v ys o e w') : DoneR w base b v ys o e w' :=
  ⟨h.1, ((Only.refl _ _).alloc ob).trans h.2.1, h.2.2⟩



end Go.Proofs.Ytpndhbhkmfcgaaa
