/- The builder's numbers and bytes, and what it has: contracts. -/
import Derived.Test.YtmhinadofihkjaaSpB
import Derived.Deep.RegionWith
import Derived.Test.YtmhinadofihkjaaRd1
import Derived.Deep.RegionHeld3
namespace Go.Proofs.Ytmhinadofihkjaa
open Go.RowKit

theorem Added.of_alloc {w w' : World} {o : Obj} {base b : Nat} {v : Bv} {ys xs : List Int} {e : Ending} (h : Added (w.alloc o) base b v ys xs e w') : Added w base b v ys xs e w' := by
  obtain ⟨r, rfl, h1, h2, h3, h4⟩ := h
  refine ⟨r, rfl, h1, h2, ((Only.refl _ _).alloc o).trans h3, ?_⟩
  rcases h4 with h4 | h4
  · exact .inl h4
  · refine .inr fun k hk => ?_
    have := h4 k hk
    simp at this
    omega

theorem Badd_lit (b : Nat) (v : Bv) (ys L : List Int) (w : World) (base : Nat) (h : Bld w b v) (he : v.err = .nilIface) (hch : v.child = .pointer none) (hf : v.fixed = false)
    (hr : Row w base v.res ys) (hb : base ≤ w.heap.size) (hx : Byt L) (hl : ys.length + L.length ≤ 140737488355328) :
    Calls Try.prog 60 #[.pointer (some ⟨b, 0, none⟩), .slice (some ⟨w.heap.size, 0, none⟩) L.length L.length] (w.alloc (.cells (L.map (Value.int .u8)).toArray 5)) (Added w base b v ys L) :=
  (Badd_any b v _ _ _ L ys _ base _ (h.alloc _) he hch hf (hr.alloc _) ((Row.lit w w.heap.size L (Nat.le_refl _) hx (by unfold maxLen; omega)).rd rfl) rfl (by simp; omega) hl).mono fun _ _ hq => hq.of_alloc

theorem BAddUint8_any (b : Nat) (v : Bv) (x : Int) (ys : List Int) (w : World) (base : Nat) (h : Bld w b v) (he : v.err = .nilIface) (hch : v.child = .pointer none) (hf : v.fixed = false)
    (hr : Row w base v.res ys) (hb : base ≤ w.heap.size) (hl : ys.length + 8 ≤ 140737488355328) (_h0 : 0 ≤ x) (h1 : x ≤ 255) :
    Calls Try.prog 66 #[.pointer (some ⟨b, 0, none⟩), .int .u8 x] w (Added w base b v ys (bigB x 1)) := by
  have hx : Byt [x] := by
    intro y hy
    simp only [List.mem_cons, List.not_mem_nil, or_false] at hy
    omega
  have hbig : bigB x 1 = [x] := by (simp [bigB] <;> omega)
  have H2 : Hid (Calls Try.prog 60 #[.pointer (some ⟨b, 0, none⟩), .slice (some ⟨w.heap.size, 0, none⟩) 1 1] (w.alloc (.cells #[.int .u8 (x)] 5)) (Added w base b v ys (bigB x 1))) := Lib.hid (by
    rw [hbig]
    exact Badd_lit b v ys [x] w base h he hch hf hr hb hx (by simp; omega))
  clear h he hch hf hr hb hl hx hbig
  go_enter Try.func66, Try.ntmps66
  go_wp2_with fail
  refine H2.out.mono ?_
  rintro e w' ⟨r, rfl, h1⟩
  have HQ := Lib.hid h1
  clear h1 H2
  go_wp2_with fail
  go_end0
  exact ⟨r, rfl, HQ.out⟩

theorem BAddUint16_any (b : Nat) (v : Bv) (x : Int) (ys : List Int) (w : World) (base : Nat) (h : Bld w b v) (he : v.err = .nilIface) (hch : v.child = .pointer none) (hf : v.fixed = false)
    (hr : Row w base v.res ys) (hb : base ≤ w.heap.size) (hl : ys.length + 8 ≤ 140737488355328) (_h0 : 0 ≤ x) :
    Calls Try.prog 37 #[.pointer (some ⟨b, 0, none⟩), .int .u16 x] w (Added w base b v ys (bigB x 2)) := by
  have hx : Byt [x / 256 % 256, x % 256] := by
    intro y hy
    simp only [List.mem_cons, List.not_mem_nil, or_false] at hy
    omega
  have hbig : bigB x 2 = [x / 256 % 256, x % 256] := by (simp [bigB] <;> omega)
  have H2 : Hid (Calls Try.prog 60 #[.pointer (some ⟨b, 0, none⟩), .slice (some ⟨w.heap.size, 0, none⟩) 2 2] (w.alloc (.cells #[.int .u8 (x / 256 % 256), .int .u8 (x % 256)] 5)) (Added w base b v ys (bigB x 2))) := Lib.hid (by
    rw [hbig]
    exact Badd_lit b v ys [x / 256 % 256, x % 256] w base h he hch hf hr hb hx (by simp; omega))
  clear h he hch hf hr hb hl hx hbig
  go_enter Try.func37, Try.ntmps37
  go_wp2_with fail
  refine H2.out.mono ?_
  rintro e w' ⟨r, rfl, h1⟩
  have HQ := Lib.hid h1
  clear h1 H2
  go_wp2_with fail
  go_end0
  exact ⟨r, rfl, HQ.out⟩


theorem BAddUint32_any (b : Nat) (v : Bv) (x : Int) (ys : List Int) (w : World) (base : Nat) (h : Bld w b v) (he : v.err = .nilIface) (hch : v.child = .pointer none) (hf : v.fixed = false)
    (hr : Row w base v.res ys) (hb : base ≤ w.heap.size) (hl : ys.length + 8 ≤ 140737488355328) (_h0 : 0 ≤ x) :
    Calls Try.prog 39 #[.pointer (some ⟨b, 0, none⟩), .int .u32 x] w (Added w base b v ys (bigB x 4)) := by
  have hx : Byt [x / 16777216 % 256, x / 65536 % 256, x / 256 % 256, x % 256] := by
    intro y hy
    simp only [List.mem_cons, List.not_mem_nil, or_false] at hy
    omega
  have hbig : bigB x 4 = [x / 16777216 % 256, x / 65536 % 256, x / 256 % 256, x % 256] := by (simp [bigB] <;> omega)
  have H2 : Hid (Calls Try.prog 60 #[.pointer (some ⟨b, 0, none⟩), .slice (some ⟨w.heap.size, 0, none⟩) 4 4] (w.alloc (.cells #[.int .u8 (x / 16777216 % 256), .int .u8 (x / 65536 % 256), .int .u8 (x / 256 % 256), .int .u8 (x % 256)] 5)) (Added w base b v ys (bigB x 4))) := Lib.hid (by
    rw [hbig]
    exact Badd_lit b v ys [x / 16777216 % 256, x / 65536 % 256, x / 256 % 256, x % 256] w base h he hch hf hr hb hx (by simp; omega))
  clear h he hch hf hr hb hl hx hbig
  go_enter Try.func39, Try.ntmps39
  go_wp2_with fail
  refine H2.out.mono ?_
  rintro e w' ⟨r, rfl, h1⟩
  have HQ := Lib.hid h1
  clear h1 H2
  go_wp2_with fail
  go_end0
  exact ⟨r, rfl, HQ.out⟩


theorem BAddUint64_any (b : Nat) (v : Bv) (x : Int) (ys : List Int) (w : World) (base : Nat) (h : Bld w b v) (he : v.err = .nilIface) (hch : v.child = .pointer none) (hf : v.fixed = false)
    (hr : Row w base v.res ys) (hb : base ≤ w.heap.size) (hl : ys.length + 8 ≤ 140737488355328) (_h0 : 0 ≤ x) :
    Calls Try.prog 40 #[.pointer (some ⟨b, 0, none⟩), .int .u64 x] w (Added w base b v ys (bigB x 8)) := by
  have hx : Byt [x / 72057594037927936 % 256, x / 281474976710656 % 256, x / 1099511627776 % 256, x / 4294967296 % 256, x / 16777216 % 256, x / 65536 % 256, x / 256 % 256, x % 256] := by
    intro y hy
    simp only [List.mem_cons, List.not_mem_nil, or_false] at hy
    omega
  have hbig : bigB x 8 = [x / 72057594037927936 % 256, x / 281474976710656 % 256, x / 1099511627776 % 256, x / 4294967296 % 256, x / 16777216 % 256, x / 65536 % 256, x / 256 % 256, x % 256] := by (simp [bigB] <;> omega)
  have H2 : Hid (Calls Try.prog 60 #[.pointer (some ⟨b, 0, none⟩), .slice (some ⟨w.heap.size, 0, none⟩) 8 8] (w.alloc (.cells #[.int .u8 (x / 72057594037927936 % 256), .int .u8 (x / 281474976710656 % 256), .int .u8 (x / 1099511627776 % 256), .int .u8 (x / 4294967296 % 256), .int .u8 (x / 16777216 % 256), .int .u8 (x / 65536 % 256), .int .u8 (x / 256 % 256), .int .u8 (x % 256)] 5)) (Added w base b v ys (bigB x 8))) := Lib.hid (by
    rw [hbig]
    exact Badd_lit b v ys [x / 72057594037927936 % 256, x / 281474976710656 % 256, x / 1099511627776 % 256, x / 4294967296 % 256, x / 16777216 % 256, x / 65536 % 256, x / 256 % 256, x % 256] w base h he hch hf hr hb hx (by simp; omega))
  clear h he hch hf hr hb hl hx hbig
  go_enter Try.func40, Try.ntmps40
  go_wp2_with fail
  refine H2.out.mono ?_
  rintro e w' ⟨r, rfl, h1⟩
  have HQ := Lib.hid h1
  clear h1 H2
  go_wp2_with fail
  go_end0
  exact ⟨r, rfl, HQ.out⟩

theorem BAddBytes_any (b : Nat) (v : Bv) (A : Option Addr) (n c : Nat) (xs ys : List Int) (w : World) (base B : Nat) (h : Bld w b v) (he : v.err = .nilIface) (hch : v.child = .pointer none) (hf : v.fixed = false)
    (hr : Row w base v.res ys) (hx : Rd w B A xs) (hn : n = xs.length) (hb : base ≤ w.heap.size) (hl : ys.length + xs.length ≤ 140737488355328) :
    Calls Try.prog 48 #[.pointer (some ⟨b, 0, none⟩), .slice A n c] w (Added w base b v ys xs) := by
  have H := Lib.hid (Badd_any b v A n c xs ys w base B h he hch hf hr hx hn hb hl)
  clear h he hch hf hr hx hn hb hl
  go_enter Try.func48, Try.ntmps48
  go_wp2_with fail
  refine H.out.mono ?_
  rintro e w' ⟨r, rfl, h1⟩
  have HQ := Lib.hid h1
  clear h1 H
  go_wp2_with fail
  go_end0
  exact ⟨r, rfl, HQ.out⟩


/-- What a builder hands out: bytes, and whether there is no error. -/
def Outs (w : World) (o : Option (List Int)) (e : Ending) (w' : World) : Prop :=
  ∃ A c ys ok, e = .returned (.tuple #[.slice A ys.length c, .bool ok]) ∧ Rd w' w'.heap.size A ys ∧ Only [] w w' ∧ ys.length ≤ c ∧ c ≤ maxLen ∧ (match o with | some xs => ok = true ∧ ys = xs | none => ok = false)
theorem BBytes_ok (b : Nat) (v : Bv) (ys : List Int) (w : World) (base : Nat) (h : Bld w b v) (he : v.err = .nilIface) (ho : v.off = 0) (hr : Row w base v.res ys) :
    Calls Try.prog 61 #[.pointer (some ⟨b, 0, none⟩)] w fun e w' => (∃ A c, e = .returned (.tuple #[.slice A ys.length c, .nilIface]) ∧ Rd w' w'.heap.size A ys ∧ ys.length ≤ c ∧ c ≤ maxLen) ∧ Only [] w w' := by
  obtain ⟨Ar, cr, hres, hrc, hrm, hrb⟩ := hr.form
  have h0 := h.c0
  have h1 := h.c1
  have h4 := h.c4
  rw [he] at h0
  rw [hres] at h1
  rw [ho] at h4
  rw [hres] at hr
  have HR := Lib.hid (hr.rd rfl)
  have HC := Lib.hid (And.intro hrc hrm)
  have hle : ¬ ((cr : Int) < 0) := by omega
  have h00 : (0 : Int) ≤ (ys.length : Int) := by omega
  clear h he ho hr hres hrb hrc hrm
  go_enter Try.func61, Try.ntmps61
  go_wp2_with fail
  go_quiet (fail)
  go_wp2_with fail
  go_ret2
  exact ⟨⟨Ar, cr, rfl, HR.out, HC.out.1, HC.out.2⟩, (Only.refl _ _).drewN _⟩
theorem BBytes_no (b : Nat) (v : Bv) (T : TypeId) (u : Value) (w : World) (h : Bld w b v) (he : v.err = .iface T u) :
    Calls Try.prog 61 #[.pointer (some ⟨b, 0, none⟩)] w fun e w' => e = .returned (.tuple #[.slice none 0 0, .iface T u]) ∧ Only [] w w' := by
  have h0 := h.c0
  rw [he] at h0
  clear h he
  go_enter Try.func61, Try.ntmps61
  go_wp2_with fail
  go_quiet (fail)
  go_wp2_with fail
  go_ret2
  exact ⟨rfl, (Only.refl _ _).drewN _⟩
theorem bytesOf_ok (b : Nat) (v : Bv) (ys : List Int) (w : World) (base : Nat) (h : Bld w b v) (he : v.err = .nilIface) (ho : v.off = 0) (hr : Row w base v.res ys) (hl : ys.length ≤ 140737488355328) :
    Calls Try.prog 38 #[.pointer (some ⟨b, 0, none⟩)] w (Outs w (some ys)) := by
  have H := Lib.hid (BBytes_ok b v ys w base h he ho hr)
  have HL := Lib.hid hl
  have HB := Lib.hid hr.1
  clear h he ho hr hl
  go_enter Try.func38, Try.ntmps38
  go_wp2_with fail
  refine H.out.mono ?_
  rintro e w1 ⟨⟨A, c, rfl, hrd, hc, hm⟩, hk⟩
  have C := Lib.hid (fun W hW => copied_any A ys.length c ys W w1.heap.size (hrd.keep hW) rfl HL.out)
  have K := Lib.hid hk
  clear hrd hc hm hk H
  go_wp2_with fail
  go_region_with (go_at_call 43; refine (C.out w1.drew (fun _ _ => rfl)).mono ?_; rintro e w2 ⟨A2, c2, rfl, hc2, hm2, hown2, hk2⟩)
  all_goals
    have R2 := Lib.hid (Rd.of_own HB.out hown2)
    have K2 : Hid (Only [] w w2) := Lib.hid (K.out.drew.trans hk2)
    have C2 := Lib.hid (And.intro hc2 hm2)
    clear hown2 hk2 hc2 hm2
    go_wp2_with fail
    go_ret2
    exact ⟨A2, c2, ys, true, rfl, R2.out, K2.out, C2.out.1, C2.out.2, rfl, rfl⟩
theorem bytesOf_no (b : Nat) (v : Bv) (T : TypeId) (u : Value) (w : World) (h : Bld w b v) (he : v.err = .iface T u) :
    Calls Try.prog 38 #[.pointer (some ⟨b, 0, none⟩)] w (Outs w none) := by
  have H := Lib.hid (BBytes_no b v T u w h he)
  clear h he
  go_enter Try.func38, Try.ntmps38
  go_wp2_with fail
  refine H.out.mono ?_
  rintro e w1 ⟨rfl, hk⟩
  have C := Lib.hid (fun W => copied_any none 0 0 [] W 0 (Rd.nil _ _ _) rfl (by simp))
  have K := Lib.hid hk
  clear hk H
  go_wp2_with fail
  go_region_with (go_at_call 43; refine (C.out w1.drew).mono ?_; rintro e w2 ⟨A2, c2, rfl, hc2, hm2, hown2, hk2⟩)
  all_goals
    have K2 : Hid (Only [] w w2) := Lib.hid (K.out.drew.trans hk2)
    have C2 := Lib.hid (And.intro hc2 hm2)
    clear hown2 hk2 hc2 hm2
    go_wp2_with fail
    go_ret2
    exact ⟨A2, c2, [], false, rfl, Rd.nil _ _ _, K2.out, C2.out.1, C2.out.2, rfl⟩


theorem ImAddUint16_any (x : Int) (w : World) (h0 : 0 ≤ x) (h1 : x < 65536) : Calls Try.prog 16 #[.int .i64 x] w (Outs w (some (bigB x 2))) := by
  have hwt : IntKind.u16.wrap x = x := wrap_id_u16 x h0 h1
  have H := Lib.hid (BAddUint16_any w.heap.size Bv.zero x [] _ w.heap.size (Bld.new w Bv.zero) rfl rfl rfl (Row.nil _ _) (by simp) (by simp) h0)
  clear h0 h1
  go_enter Try.func16, Try.ntmps16
  go_wp2_with fail
  refine H.out.mono ?_
  rintro e w1 ⟨r, rfl, hb1, hr1, hk1, _⟩
  have hk : Only [] w w1 := ((Only.refl _ _).alloc _).then hk1 (by
    intro i hi hlt
    simp [own, Bv.zero, Value.ownBlock] at hi
    omega)
  have H2 := Lib.hid (bytesOf_ok _ _ _ _ _ hb1 rfl rfl hr1 (by rw [List.nil_append, bigB_len]; decide))
  have K := Lib.hid hk
  clear hb1 hr1 hk1 hk H
  go_wp2_with fail
  refine H2.out.mono ?_
  rintro e w2 ⟨A, c, ys, ok, rfl, h1, h2, h3⟩
  have HQ := Lib.hid (And.intro h1 (And.intro (K.out.trans h2) h3))
  clear h1 h2 h3 H2
  go_wp2_with fail
  go_ret2
  exact ⟨A, c, ys, ok, rfl, HQ.out⟩


theorem ImAddUint32_any (x : Int) (w : World) (h0 : 0 ≤ x) (h1 : x < 4294967296) : Calls Try.prog 19 #[.int .i64 x] w (Outs w (some (bigB x 4))) := by
  have hwt : IntKind.u32.wrap x = x := wrap_id_u32 x h0 h1
  have H := Lib.hid (BAddUint32_any w.heap.size Bv.zero x [] _ w.heap.size (Bld.new w Bv.zero) rfl rfl rfl (Row.nil _ _) (by simp) (by simp) h0)
  clear h0 h1
  go_enter Try.func19, Try.ntmps19
  go_wp2_with fail
  refine H.out.mono ?_
  rintro e w1 ⟨r, rfl, hb1, hr1, hk1, _⟩
  have hk : Only [] w w1 := ((Only.refl _ _).alloc _).then hk1 (by
    intro i hi hlt
    simp [own, Bv.zero, Value.ownBlock] at hi
    omega)
  have H2 := Lib.hid (bytesOf_ok _ _ _ _ _ hb1 rfl rfl hr1 (by rw [List.nil_append, bigB_len]; decide))
  have K := Lib.hid hk
  clear hb1 hr1 hk1 hk H
  go_wp2_with fail
  refine H2.out.mono ?_
  rintro e w2 ⟨A, c, ys, ok, rfl, h1, h2, h3⟩
  have HQ := Lib.hid (And.intro h1 (And.intro (K.out.trans h2) h3))
  clear h1 h2 h3 H2
  go_wp2_with fail
  go_ret2
  exact ⟨A, c, ys, ok, rfl, HQ.out⟩


theorem ImAddUint64_any (x : Int) (w : World) (h0 : 0 ≤ x) (_h1 : x < 18446744073709551616) : Calls Try.prog 20 #[.int .u64 x] w (Outs w (some (bigB x 8))) := by
  have H := Lib.hid (BAddUint64_any w.heap.size Bv.zero x [] _ w.heap.size (Bld.new w Bv.zero) rfl rfl rfl (Row.nil _ _) (by simp) (by simp) h0)
  clear h0 _h1
  go_enter Try.func20, Try.ntmps20
  go_wp2_with fail
  refine H.out.mono ?_
  rintro e w1 ⟨r, rfl, hb1, hr1, hk1, _⟩
  have hk : Only [] w w1 := ((Only.refl _ _).alloc _).then hk1 (by
    intro i hi hlt
    simp [own, Bv.zero, Value.ownBlock] at hi
    omega)
  have H2 := Lib.hid (bytesOf_ok _ _ _ _ _ hb1 rfl rfl hr1 (by rw [List.nil_append, bigB_len]; decide))
  have K := Lib.hid hk
  clear hb1 hr1 hk1 hk H
  go_wp2_with fail
  refine H2.out.mono ?_
  rintro e w2 ⟨A, c, ys, ok, rfl, h1, h2, h3⟩
  have HQ := Lib.hid (And.intro h1 (And.intro (K.out.trans h2) h3))
  clear h1 h2 h3 H2
  go_wp2_with fail
  go_ret2
  exact ⟨A, c, ys, ok, rfl, HQ.out⟩

end Go.Proofs.Ytmhinadofihkjaa
