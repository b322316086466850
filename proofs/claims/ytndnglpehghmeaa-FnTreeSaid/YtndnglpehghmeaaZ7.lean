/- Steps that add numbers and bytes: contracts. Steps that add elements without steps within: contracts. Steps that have steps within, in a continuation: contracts. -/
import Derived.Test.YtndnglpehghmeaaZ6
/-! ### Steps that add numbers and bytes: contracts. -/
namespace Go.Proofs.Ytndnglpehghmeaa
open Go.RowKit

theorem plain_good0 (n t : Int) (d o : List Int) (kids : Its) (Ad : Option Addr) (cd : Nat) (Ao : Option Addr) (co : Nat) (Ak : Option Addr) (ck : Nat) (w : World) (base b N : Nat) (v : Bv) (ys cs : List Int) (ins : Bool) (B : Nat) (g : Good w base b v ys cs ins B) (hi : ItemRd w B n t d o kids Ad Ao Ak) (hl : (ys ++ cs).length ≤ 2000000000) :
    Calls Try.prog 19 #[.pointer (some ⟨b, 0, none⟩), itemV 0 n t d o kids Ad cd Ao co Ak ck] w (DoneP w base b v ys ins N (.good (cs ++ bigB n 1))) := by
  have g0 := g.item (.cells #[.int .i64 0, .int .i64 n, .int .i64 t, .slice Ad d.length cd, .slice Ao o.length co, .slice Ak kids.len ck] 42)
  have H := Lib.hid (BAddUint8_any b v (n % 256) (ys ++ cs) _ base g0.bld g0.err g0.child g0.fixed g0.row g0.base (by omega) (by omega) (by omega))
  have HQ0 : Hid (∀ e w', Added (w.alloc (.cells #[.int .i64 0, .int .i64 n, .int .i64 t, .slice Ad d.length cd, .slice Ao o.length co, .slice Ak kids.len ck] 42)) base b v (ys ++ cs) (bigB (n % 256) 1) e w' → DoneP w base b v ys ins N (.good (cs ++ bigB n 1)) e w') := Lib.hid (fun e w' h => by
    have := ((Added.done (N := N) h g0.row g0.bld g0.ready).own).grow ((Only.refl _ _).alloc _)
    rw [bigB_mod1] at this
    exact this)
  obtain ⟨n0, n1⟩ := hi.rn
  clear g hi hl g0
  unfold itemV
  go_enter Try.func19, Try.ntmps19
  go_wp2_with fail
  refine H.out.mono ?_
  intro e w' hd
  have hd2 := HQ0.out e w' hd
  obtain rfl := hd2.2.1
  have HQ := Lib.hid hd2
  clear hd2 H hd
  go_wp2_with fail
  go_end0
  exact HQ.out

theorem plain_err0 (n t : Int) (d o : List Int) (kids : Its) (Ad : Option Addr) (cd : Nat) (Ao : Option Addr) (co : Nat) (Ak : Option Addr) (ck : Nat) (w : World) (b B : Nat) (h : Erred w b) (hi : ItemRd w B n t d o kids Ad Ao Ak) (_hB : B ≤ w.heap.size) :
    Calls Try.prog 19 #[.pointer (some ⟨b, 0, none⟩), itemV 0 n t d o kids Ad cd Ao co Ak ck] w (Idle w) := by
  have H := Lib.hid (u8_err b (n % 256) (w.alloc (.cells #[.int .i64 0, .int .i64 n, .int .i64 t, .slice Ad d.length cd, .slice Ao o.length co, .slice Ak kids.len ck] 42)) (h.alloc _))
  obtain ⟨n0, n1⟩ := hi.rn
  clear h hi
  unfold itemV
  go_enter Try.func19, Try.ntmps19
  go_wp2_with fail
  refine H.out.mono ?_
  rintro e w' ⟨rfl, hk⟩
  have HQ : Hid (Only [] w w') := Lib.hid (((Only.refl _ _).alloc _).trans hk)
  clear hk H
  go_wp2_with fail
  go_end0
  exact ⟨rfl, HQ.out⟩

theorem plain_good1 (n t : Int) (d o : List Int) (kids : Its) (Ad : Option Addr) (cd : Nat) (Ao : Option Addr) (co : Nat) (Ak : Option Addr) (ck : Nat) (w : World) (base b N : Nat) (v : Bv) (ys cs : List Int) (ins : Bool) (B : Nat) (g : Good w base b v ys cs ins B) (hi : ItemRd w B n t d o kids Ad Ao Ak) (hl : (ys ++ cs).length ≤ 2000000000) :
    Calls Try.prog 19 #[.pointer (some ⟨b, 0, none⟩), itemV 1 n t d o kids Ad cd Ao co Ak ck] w (DoneP w base b v ys ins N (.good (cs ++ bigB n 2))) := by
  have g0 := g.item (.cells #[.int .i64 1, .int .i64 n, .int .i64 t, .slice Ad d.length cd, .slice Ao o.length co, .slice Ak kids.len ck] 42)
  have H := Lib.hid (BAddUint16_any b v (n % 65536) (ys ++ cs) _ base g0.bld g0.err g0.child g0.fixed g0.row g0.base (by omega) (by omega))
  have HQ0 : Hid (∀ e w', Added (w.alloc (.cells #[.int .i64 1, .int .i64 n, .int .i64 t, .slice Ad d.length cd, .slice Ao o.length co, .slice Ak kids.len ck] 42)) base b v (ys ++ cs) (bigB (n % 65536) 2) e w' → DoneP w base b v ys ins N (.good (cs ++ bigB n 2)) e w') := Lib.hid (fun e w' h => by
    have := ((Added.done (N := N) h g0.row g0.bld g0.ready).own).grow ((Only.refl _ _).alloc _)
    rw [bigB_mod2] at this
    exact this)
  obtain ⟨n0, n1⟩ := hi.rn
  clear g hi hl g0
  unfold itemV
  go_enter Try.func19, Try.ntmps19
  go_wp2_with fail
  refine H.out.mono ?_
  intro e w' hd
  have hd2 := HQ0.out e w' hd
  obtain rfl := hd2.2.1
  have HQ := Lib.hid hd2
  clear hd2 H hd
  go_wp2_with fail
  go_end0
  exact HQ.out

theorem plain_err1 (n t : Int) (d o : List Int) (kids : Its) (Ad : Option Addr) (cd : Nat) (Ao : Option Addr) (co : Nat) (Ak : Option Addr) (ck : Nat) (w : World) (b B : Nat) (h : Erred w b) (hi : ItemRd w B n t d o kids Ad Ao Ak) (_hB : B ≤ w.heap.size) :
    Calls Try.prog 19 #[.pointer (some ⟨b, 0, none⟩), itemV 1 n t d o kids Ad cd Ao co Ak ck] w (Idle w) := by
  have H := Lib.hid (u16_err b (n % 65536) (w.alloc (.cells #[.int .i64 1, .int .i64 n, .int .i64 t, .slice Ad d.length cd, .slice Ao o.length co, .slice Ak kids.len ck] 42)) (h.alloc _))
  obtain ⟨n0, n1⟩ := hi.rn
  clear h hi
  unfold itemV
  go_enter Try.func19, Try.ntmps19
  go_wp2_with fail
  refine H.out.mono ?_
  rintro e w' ⟨rfl, hk⟩
  have HQ : Hid (Only [] w w') := Lib.hid (((Only.refl _ _).alloc _).trans hk)
  clear hk H
  go_wp2_with fail
  go_end0
  exact ⟨rfl, HQ.out⟩

theorem plain_good2 (n t : Int) (d o : List Int) (kids : Its) (Ad : Option Addr) (cd : Nat) (Ao : Option Addr) (co : Nat) (Ak : Option Addr) (ck : Nat) (w : World) (base b N : Nat) (v : Bv) (ys cs : List Int) (ins : Bool) (B : Nat) (g : Good w base b v ys cs ins B) (hi : ItemRd w B n t d o kids Ad Ao Ak) (hl : (ys ++ cs).length ≤ 2000000000) :
    Calls Try.prog 19 #[.pointer (some ⟨b, 0, none⟩), itemV 2 n t d o kids Ad cd Ao co Ak ck] w (DoneP w base b v ys ins N (.good (cs ++ bigB n 3))) := by
  have g0 := g.item (.cells #[.int .i64 2, .int .i64 n, .int .i64 t, .slice Ad d.length cd, .slice Ao o.length co, .slice Ak kids.len ck] 42)
  have H := Lib.hid (BAddUint24_any b v (n % 4294967296) (ys ++ cs) _ base g0.bld g0.err g0.child g0.fixed g0.row g0.base (by omega) (by omega))
  have HQ0 : Hid (∀ e w', Added (w.alloc (.cells #[.int .i64 2, .int .i64 n, .int .i64 t, .slice Ad d.length cd, .slice Ao o.length co, .slice Ak kids.len ck] 42)) base b v (ys ++ cs) (bigB (n % 4294967296) 3) e w' → DoneP w base b v ys ins N (.good (cs ++ bigB n 3)) e w') := Lib.hid (fun e w' h => by
    have := ((Added.done (N := N) h g0.row g0.bld g0.ready).own).grow ((Only.refl _ _).alloc _)
    rw [bigB_mod3] at this
    exact this)
  obtain ⟨n0, n1⟩ := hi.rn
  clear g hi hl g0
  unfold itemV
  go_enter Try.func19, Try.ntmps19
  go_wp2_with fail
  refine H.out.mono ?_
  intro e w' hd
  have hd2 := HQ0.out e w' hd
  obtain rfl := hd2.2.1
  have HQ := Lib.hid hd2
  clear hd2 H hd
  go_wp2_with fail
  go_end0
  exact HQ.out

theorem plain_err2 (n t : Int) (d o : List Int) (kids : Its) (Ad : Option Addr) (cd : Nat) (Ao : Option Addr) (co : Nat) (Ak : Option Addr) (ck : Nat) (w : World) (b B : Nat) (h : Erred w b) (hi : ItemRd w B n t d o kids Ad Ao Ak) (_hB : B ≤ w.heap.size) :
    Calls Try.prog 19 #[.pointer (some ⟨b, 0, none⟩), itemV 2 n t d o kids Ad cd Ao co Ak ck] w (Idle w) := by
  have H := Lib.hid (u24_err b (n % 4294967296) (w.alloc (.cells #[.int .i64 2, .int .i64 n, .int .i64 t, .slice Ad d.length cd, .slice Ao o.length co, .slice Ak kids.len ck] 42)) (h.alloc _))
  obtain ⟨n0, n1⟩ := hi.rn
  clear h hi
  unfold itemV
  go_enter Try.func19, Try.ntmps19
  go_wp2_with fail
  refine H.out.mono ?_
  rintro e w' ⟨rfl, hk⟩
  have HQ : Hid (Only [] w w') := Lib.hid (((Only.refl _ _).alloc _).trans hk)
  clear hk H
  go_wp2_with fail
  go_end0
  exact ⟨rfl, HQ.out⟩

theorem plain_good3 (n t : Int) (d o : List Int) (kids : Its) (Ad : Option Addr) (cd : Nat) (Ao : Option Addr) (co : Nat) (Ak : Option Addr) (ck : Nat) (w : World) (base b N : Nat) (v : Bv) (ys cs : List Int) (ins : Bool) (B : Nat) (g : Good w base b v ys cs ins B) (hi : ItemRd w B n t d o kids Ad Ao Ak) (hl : (ys ++ cs).length ≤ 2000000000) :
    Calls Try.prog 19 #[.pointer (some ⟨b, 0, none⟩), itemV 3 n t d o kids Ad cd Ao co Ak ck] w (DoneP w base b v ys ins N (.good (cs ++ bigB n 4))) := by
  have g0 := g.item (.cells #[.int .i64 3, .int .i64 n, .int .i64 t, .slice Ad d.length cd, .slice Ao o.length co, .slice Ak kids.len ck] 42)
  have H := Lib.hid (BAddUint32_any b v (n % 4294967296) (ys ++ cs) _ base g0.bld g0.err g0.child g0.fixed g0.row g0.base (by omega) (by omega))
  have HQ0 : Hid (∀ e w', Added (w.alloc (.cells #[.int .i64 3, .int .i64 n, .int .i64 t, .slice Ad d.length cd, .slice Ao o.length co, .slice Ak kids.len ck] 42)) base b v (ys ++ cs) (bigB (n % 4294967296) 4) e w' → DoneP w base b v ys ins N (.good (cs ++ bigB n 4)) e w') := Lib.hid (fun e w' h => by
    have := ((Added.done (N := N) h g0.row g0.bld g0.ready).own).grow ((Only.refl _ _).alloc _)
    rw [bigB_mod4] at this
    exact this)
  obtain ⟨n0, n1⟩ := hi.rn
  clear g hi hl g0
  unfold itemV
  go_enter Try.func19, Try.ntmps19
  go_wp2_with fail
  refine H.out.mono ?_
  intro e w' hd
  have hd2 := HQ0.out e w' hd
  obtain rfl := hd2.2.1
  have HQ := Lib.hid hd2
  clear hd2 H hd
  go_wp2_with fail
  go_end0
  exact HQ.out

theorem plain_err3 (n t : Int) (d o : List Int) (kids : Its) (Ad : Option Addr) (cd : Nat) (Ao : Option Addr) (co : Nat) (Ak : Option Addr) (ck : Nat) (w : World) (b B : Nat) (h : Erred w b) (hi : ItemRd w B n t d o kids Ad Ao Ak) (_hB : B ≤ w.heap.size) :
    Calls Try.prog 19 #[.pointer (some ⟨b, 0, none⟩), itemV 3 n t d o kids Ad cd Ao co Ak ck] w (Idle w) := by
  have H := Lib.hid (u32_err b (n % 4294967296) (w.alloc (.cells #[.int .i64 3, .int .i64 n, .int .i64 t, .slice Ad d.length cd, .slice Ao o.length co, .slice Ak kids.len ck] 42)) (h.alloc _))
  obtain ⟨n0, n1⟩ := hi.rn
  clear h hi
  unfold itemV
  go_enter Try.func19, Try.ntmps19
  go_wp2_with fail
  refine H.out.mono ?_
  rintro e w' ⟨rfl, hk⟩
  have HQ : Hid (Only [] w w') := Lib.hid (((Only.refl _ _).alloc _).trans hk)
  clear hk H
  go_wp2_with fail
  go_end0
  exact ⟨rfl, HQ.out⟩

theorem plain_good4 (n t : Int) (d o : List Int) (kids : Its) (Ad : Option Addr) (cd : Nat) (Ao : Option Addr) (co : Nat) (Ak : Option Addr) (ck : Nat) (w : World) (base b N : Nat) (v : Bv) (ys cs : List Int) (ins : Bool) (B : Nat) (g : Good w base b v ys cs ins B) (hi : ItemRd w B n t d o kids Ad Ao Ak) (hl : (ys ++ cs).length ≤ 2000000000) :
    Calls Try.prog 19 #[.pointer (some ⟨b, 0, none⟩), itemV 4 n t d o kids Ad cd Ao co Ak ck] w (DoneP w base b v ys ins N (.good (cs ++ bigB n 6))) := by
  have g0 := g.item (.cells #[.int .i64 4, .int .i64 n, .int .i64 t, .slice Ad d.length cd, .slice Ao o.length co, .slice Ak kids.len ck] 42)
  have H := Lib.hid (BAddUint48_any b v (n % 18446744073709551616) (ys ++ cs) _ base g0.bld g0.err g0.child g0.fixed g0.row g0.base (by omega) (by omega))
  have HQ0 : Hid (∀ e w', Added (w.alloc (.cells #[.int .i64 4, .int .i64 n, .int .i64 t, .slice Ad d.length cd, .slice Ao o.length co, .slice Ak kids.len ck] 42)) base b v (ys ++ cs) (bigB (n % 18446744073709551616) 6) e w' → DoneP w base b v ys ins N (.good (cs ++ bigB n 6)) e w') := Lib.hid (fun e w' h => by
    have := ((Added.done (N := N) h g0.row g0.bld g0.ready).own).grow ((Only.refl _ _).alloc _)
    rw [bigB_mod6] at this
    exact this)
  obtain ⟨n0, n1⟩ := hi.rn
  clear g hi hl g0
  unfold itemV
  go_enter Try.func19, Try.ntmps19
  go_wp2_with fail
  refine H.out.mono ?_
  intro e w' hd
  have hd2 := HQ0.out e w' hd
  obtain rfl := hd2.2.1
  have HQ := Lib.hid hd2
  clear hd2 H hd
  go_wp2_with fail
  go_end0
  exact HQ.out

theorem plain_err4 (n t : Int) (d o : List Int) (kids : Its) (Ad : Option Addr) (cd : Nat) (Ao : Option Addr) (co : Nat) (Ak : Option Addr) (ck : Nat) (w : World) (b B : Nat) (h : Erred w b) (hi : ItemRd w B n t d o kids Ad Ao Ak) (_hB : B ≤ w.heap.size) :
    Calls Try.prog 19 #[.pointer (some ⟨b, 0, none⟩), itemV 4 n t d o kids Ad cd Ao co Ak ck] w (Idle w) := by
  have H := Lib.hid (u48_err b (n % 18446744073709551616) (w.alloc (.cells #[.int .i64 4, .int .i64 n, .int .i64 t, .slice Ad d.length cd, .slice Ao o.length co, .slice Ak kids.len ck] 42)) (h.alloc _))
  obtain ⟨n0, n1⟩ := hi.rn
  clear h hi
  unfold itemV
  go_enter Try.func19, Try.ntmps19
  go_wp2_with fail
  refine H.out.mono ?_
  rintro e w' ⟨rfl, hk⟩
  have HQ : Hid (Only [] w w') := Lib.hid (((Only.refl _ _).alloc _).trans hk)
  clear hk H
  go_wp2_with fail
  go_end0
  exact ⟨rfl, HQ.out⟩

theorem plain_good5 (n t : Int) (d o : List Int) (kids : Its) (Ad : Option Addr) (cd : Nat) (Ao : Option Addr) (co : Nat) (Ak : Option Addr) (ck : Nat) (w : World) (base b N : Nat) (v : Bv) (ys cs : List Int) (ins : Bool) (B : Nat) (g : Good w base b v ys cs ins B) (hi : ItemRd w B n t d o kids Ad Ao Ak) (hl : (ys ++ cs).length ≤ 2000000000) :
    Calls Try.prog 19 #[.pointer (some ⟨b, 0, none⟩), itemV 5 n t d o kids Ad cd Ao co Ak ck] w (DoneP w base b v ys ins N (.good (cs ++ bigB n 8))) := by
  have g0 := g.item (.cells #[.int .i64 5, .int .i64 n, .int .i64 t, .slice Ad d.length cd, .slice Ao o.length co, .slice Ak kids.len ck] 42)
  have H := Lib.hid (BAddUint64_any b v (n % 18446744073709551616) (ys ++ cs) _ base g0.bld g0.err g0.child g0.fixed g0.row g0.base (by omega) (by omega))
  have HQ0 : Hid (∀ e w', Added (w.alloc (.cells #[.int .i64 5, .int .i64 n, .int .i64 t, .slice Ad d.length cd, .slice Ao o.length co, .slice Ak kids.len ck] 42)) base b v (ys ++ cs) (bigB (n % 18446744073709551616) 8) e w' → DoneP w base b v ys ins N (.good (cs ++ bigB n 8)) e w') := Lib.hid (fun e w' h => by
    have := ((Added.done (N := N) h g0.row g0.bld g0.ready).own).grow ((Only.refl _ _).alloc _)
    rw [bigB_mod8] at this
    exact this)
  obtain ⟨n0, n1⟩ := hi.rn
  clear g hi hl g0
  unfold itemV
  go_enter Try.func19, Try.ntmps19
  go_wp2_with fail
  refine H.out.mono ?_
  intro e w' hd
  have hd2 := HQ0.out e w' hd
  obtain rfl := hd2.2.1
  have HQ := Lib.hid hd2
  clear hd2 H hd
  go_wp2_with fail
  go_end0
  exact HQ.out

theorem plain_err5 (n t : Int) (d o : List Int) (kids : Its) (Ad : Option Addr) (cd : Nat) (Ao : Option Addr) (co : Nat) (Ak : Option Addr) (ck : Nat) (w : World) (b B : Nat) (h : Erred w b) (hi : ItemRd w B n t d o kids Ad Ao Ak) (_hB : B ≤ w.heap.size) :
    Calls Try.prog 19 #[.pointer (some ⟨b, 0, none⟩), itemV 5 n t d o kids Ad cd Ao co Ak ck] w (Idle w) := by
  have H := Lib.hid (u64_err b (n % 18446744073709551616) (w.alloc (.cells #[.int .i64 5, .int .i64 n, .int .i64 t, .slice Ad d.length cd, .slice Ao o.length co, .slice Ak kids.len ck] 42)) (h.alloc _))
  obtain ⟨n0, n1⟩ := hi.rn
  clear h hi
  unfold itemV
  go_enter Try.func19, Try.ntmps19
  go_wp2_with fail
  refine H.out.mono ?_
  rintro e w' ⟨rfl, hk⟩
  have HQ : Hid (Only [] w w') := Lib.hid (((Only.refl _ _).alloc _).trans hk)
  clear hk H
  go_wp2_with fail
  go_end0
  exact ⟨rfl, HQ.out⟩

theorem plain_good6 (n t : Int) (d o : List Int) (kids : Its) (Ad : Option Addr) (cd : Nat) (Ao : Option Addr) (co : Nat) (Ak : Option Addr) (ck : Nat) (w : World) (base b N : Nat) (v : Bv) (ys cs : List Int) (ins : Bool) (B : Nat) (g : Good w base b v ys cs ins B) (hi : ItemRd w B n t d o kids Ad Ao Ak) (hl : (ys ++ cs).length ≤ 2000000000) :
    Calls Try.prog 19 #[.pointer (some ⟨b, 0, none⟩), itemV 6 n t d o kids Ad cd Ao co Ak ck] w (DoneP w base b v ys ins N (.good (cs ++ d))) := by
  have g0 := g.item (.cells #[.int .i64 6, .int .i64 n, .int .i64 t, .slice Ad d.length cd, .slice Ao o.length co, .slice Ak kids.len ck] 42)
  have i0 := hi.alloc g.hB (.cells #[.int .i64 6, .int .i64 n, .int .i64 t, .slice Ad d.length cd, .slice Ao o.length co, .slice Ak kids.len ck] 42)
  have hdl := hi.dl
  have C := Lib.hid (copied_any Ad d.length cd d _ B i0.rd rfl (by omega))
  have H := Lib.hid (fun w1 (hk : Only [] (w.alloc (.cells #[.int .i64 6, .int .i64 n, .int .i64 t, .slice Ad d.length cd, .slice Ao o.length co, .slice Ak kids.len ck] 42)) w1) (A1 : Option Addr) (c1 : Nat) (hr : Rd w1 w1.heap.size A1 d) => Calls.mono (BAddBytes_any b v A1 d.length c1 d (ys ++ cs) w1 base w1.heap.size (g0.grow hk).bld g.err g.child g.fixed (g0.grow hk).row hr rfl (g0.grow hk).base (by omega)) (fun e w' h => DoneP.grow (DoneP.grow (DoneP.own (Added.done (N := N) h (g0.grow hk).row (g0.grow hk).bld (g0.grow hk).ready)) hk) ((Only.refl _ _).alloc _)))
  have HY := Lib.hid hi.rd.byt
  clear g hi hl g0 i0 hdl
  unfold itemV
  go_enter Try.func19, Try.ntmps19
  go_wp2_with fail
  refine C.out.mono ?_
  rintro e w1 ⟨A1, c1, rfl, hc1, hm1, hown, hk⟩
  have H1 := Lib.hid (H.out w1 hk A1 c1 (Rd.of_own HY.out hown))
  clear hc1 hm1 hown hk H C
  go_wp2_with fail
  refine H1.out.mono ?_
  intro e w' hd2
  obtain rfl := hd2.2.1
  have HQ := Lib.hid hd2
  clear hd2 H1
  go_wp2_with fail
  go_end0
  exact HQ.out

theorem plain_err6 (n t : Int) (d o : List Int) (kids : Its) (Ad : Option Addr) (cd : Nat) (Ao : Option Addr) (co : Nat) (Ak : Option Addr) (ck : Nat) (w : World) (b B : Nat) (h : Erred w b) (hi : ItemRd w B n t d o kids Ad Ao Ak) (hB : B ≤ w.heap.size) :
    Calls Try.prog 19 #[.pointer (some ⟨b, 0, none⟩), itemV 6 n t d o kids Ad cd Ao co Ak ck] w (Idle w) := by
  have i0 := hi.alloc hB (.cells #[.int .i64 6, .int .i64 n, .int .i64 t, .slice Ad d.length cd, .slice Ao o.length co, .slice Ak kids.len ck] 42)
  have hdl := hi.dl
  have C := Lib.hid (copied_any Ad d.length cd d _ B i0.rd rfl (by omega))
  have H := Lib.hid (fun w1 (hk : Only [] w w1) (A1 : Option Addr) (c1 : Nat) => bytes_err b A1 d.length c1 w1 (h.only hk))
  clear h hi hB i0 hdl
  unfold itemV
  go_enter Try.func19, Try.ntmps19
  go_wp2_with fail
  refine C.out.mono ?_
  rintro e w1 ⟨A1, c1, rfl, hc1, hm1, hown, hk⟩
  have hk1 : Only [] w w1 := ((Only.refl _ _).alloc _).trans hk
  have H1 := Lib.hid (H.out w1 hk1 A1 c1)
  have K1 := Lib.hid hk1
  clear hc1 hm1 hown hk hk1 H C
  go_wp2_with fail
  refine H1.out.mono ?_
  rintro e w' ⟨rfl, hk⟩
  have HQ : Hid (Only [] w w') := Lib.hid (K1.out.trans hk)
  clear hk H1
  go_wp2_with fail
  go_end0
  exact ⟨rfl, HQ.out⟩

end Go.Proofs.Ytndnglpehghmeaa

/-! ### Steps that add elements without steps within: contracts. -/
namespace Go.Proofs.Ytndnglpehghmeaa
open Go.RowKit

theorem DoneP.cat {w w' : World} {base b N : Nat} {v : Bv} {ys cs : List Int} {ins : Bool} {o : Option (List Int)} {e : Ending} (h : DoneP w base b v (ys ++ cs) ins N (ofO o) e w') : DoneP w base b v ys ins N (resCat cs o) e w' := by
  have := h.own
  rwa [Res.pre_ofO] at this
theorem DoneP.ret' {w w' : World} {base b N : Nat} {v : Bv} {ys cs : List Int} {ins : Bool} {x : Option (List Int)} {e : Ending} (h : DoneP w base b v ys ins N (resCat cs x) e w') : e = .returned (.tuple #[]) := by
  cases x with
  | none => exact h.2.1
  | some cs => exact h.2.1

theorem element_good13 (n t : Int) (d o : List Int) (kids : Its) (Ad : Option Addr) (cd : Nat) (Ao : Option Addr) (co : Nat) (Ak : Option Addr) (ck : Nat) (w : World) (base b N : Nat) (v : Bv) (ys cs : List Int) (ins : Bool) (B : Nat) (g : Good w base b v ys cs ins B) (hi : ItemRd w B n t d o kids Ad Ao Ak) (hl : (ys ++ cs).length + (24 + d.length + 5 * o.length) ≤ 2000000000) (hN : (ys ++ cs).length + (24 + d.length + 5 * o.length) ≤ N) :
    Calls Try.prog 21 #[.pointer (some ⟨b, 0, none⟩), itemV 13 n t d o kids Ad cd Ao co Ak ck] w (DoneP w base b v ys ins N (resCat cs (elem 2 (octs n)))) := by
  have g0 := g.item (.cells #[.int .i64 13, .int .i64 n, .int .i64 t, .slice Ad d.length cd, .slice Ao o.length co, .slice Ak kids.len ck] 42)
  obtain ⟨n0, n1⟩ := hi.rn
  obtain ⟨t0, t1⟩ := hi.rt
  have H := Lib.hid (Calls.mono (Int64P_gen b v n (ys ++ cs) _ base N ins g0.bld g0.err g0.child g0.fixed g0.ready g0.row g0.base (by omega) (by omega) n0 n1) (fun e w' h => DoneP.grow (DoneP.cat h) ((Only.refl _ _).alloc _)))
  clear g hi hl g0 hN
  unfold itemV
  go_enter Try.func21, Try.ntmps21
  go_wp2_with fail
  refine H.out.mono ?_
  intro e w' hd
  obtain rfl := hd.ret'
  have HQ := Lib.hid hd
  clear hd H
  go_wp2_with fail
  go_end0
  exact HQ.out

theorem element_err13 (n t : Int) (d o : List Int) (kids : Its) (Ad : Option Addr) (cd : Nat) (Ao : Option Addr) (co : Nat) (Ak : Option Addr) (ck : Nat) (w : World) (b B : Nat) (h : Erred w b) (hi : ItemRd w B n t d o kids Ad Ao Ak) (_hB : B ≤ w.heap.size) :
    Calls Try.prog 21 #[.pointer (some ⟨b, 0, none⟩), itemV 13 n t d o kids Ad cd Ao co Ak ck] w (Idle w) := by
  have H := Lib.hid (int64_err b n (w.alloc (.cells #[.int .i64 13, .int .i64 n, .int .i64 t, .slice Ad d.length cd, .slice Ao o.length co, .slice Ak kids.len ck] 42)) (h.alloc _))
  obtain ⟨n0, n1⟩ := hi.rn
  obtain ⟨t0, t1⟩ := hi.rt
  clear h hi
  unfold itemV
  go_enter Try.func21, Try.ntmps21
  go_wp2_with fail
  refine H.out.mono ?_
  rintro e w' ⟨rfl, hk⟩
  have HQ : Hid (Only [] w w') := Lib.hid (((Only.refl _ _).alloc _).trans hk)
  clear hk H
  go_wp2_with fail
  go_end0
  exact ⟨rfl, HQ.out⟩

theorem element_good14 (n t : Int) (d o : List Int) (kids : Its) (Ad : Option Addr) (cd : Nat) (Ao : Option Addr) (co : Nat) (Ak : Option Addr) (ck : Nat) (w : World) (base b N : Nat) (v : Bv) (ys cs : List Int) (ins : Bool) (B : Nat) (g : Good w base b v ys cs ins B) (hi : ItemRd w B n t d o kids Ad Ao Ak) (hl : (ys ++ cs).length + (24 + d.length + 5 * o.length) ≤ 2000000000) (hN : (ys ++ cs).length + (24 + d.length + 5 * o.length) ≤ N) :
    Calls Try.prog 21 #[.pointer (some ⟨b, 0, none⟩), itemV 14 n t d o kids Ad cd Ao co Ak ck] w (DoneP w base b v ys ins N (resCat cs (elem t (octs n)))) := by
  have g0 := g.item (.cells #[.int .i64 14, .int .i64 n, .int .i64 t, .slice Ad d.length cd, .slice Ao o.length co, .slice Ak kids.len ck] 42)
  obtain ⟨n0, n1⟩ := hi.rn
  obtain ⟨t0, t1⟩ := hi.rt
  have H := Lib.hid (Calls.mono (WithTagP_gen b v t n (ys ++ cs) _ base N ins g0.bld g0.err g0.child g0.fixed g0.ready g0.row g0.base (by omega) (by omega) ⟨t0, t1⟩ n0 n1) (fun e w' h => DoneP.grow (DoneP.cat h) ((Only.refl _ _).alloc _)))
  have htw : IntKind.u8.wrap t = t := by simp [IntKind.wrap, IntKind.bits, IntKind.signed]; omega
  clear g hi hl g0 hN
  unfold itemV
  go_enter Try.func21, Try.ntmps21
  go_wp2_with fail
  refine H.out.mono ?_
  intro e w' hd
  obtain rfl := hd.ret'
  have HQ := Lib.hid hd
  clear hd H
  go_wp2_with fail
  go_end0
  exact HQ.out

theorem element_err14 (n t : Int) (d o : List Int) (kids : Its) (Ad : Option Addr) (cd : Nat) (Ao : Option Addr) (co : Nat) (Ak : Option Addr) (ck : Nat) (w : World) (b B : Nat) (h : Erred w b) (hi : ItemRd w B n t d o kids Ad Ao Ak) (_hB : B ≤ w.heap.size) :
    Calls Try.prog 21 #[.pointer (some ⟨b, 0, none⟩), itemV 14 n t d o kids Ad cd Ao co Ak ck] w (Idle w) := by
  have H := Lib.hid (withtag_err b t n (w.alloc (.cells #[.int .i64 14, .int .i64 n, .int .i64 t, .slice Ad d.length cd, .slice Ao o.length co, .slice Ak kids.len ck] 42)) (h.alloc _))
  obtain ⟨n0, n1⟩ := hi.rn
  obtain ⟨t0, t1⟩ := hi.rt
  have htw : IntKind.u8.wrap t = t := by simp [IntKind.wrap, IntKind.bits, IntKind.signed]; omega
  clear h hi
  unfold itemV
  go_enter Try.func21, Try.ntmps21
  go_wp2_with fail
  refine H.out.mono ?_
  rintro e w' ⟨rfl, hk⟩
  have HQ : Hid (Only [] w w') := Lib.hid (((Only.refl _ _).alloc _).trans hk)
  clear hk H
  go_wp2_with fail
  go_end0
  exact ⟨rfl, HQ.out⟩

theorem element_good15 (n t : Int) (d o : List Int) (kids : Its) (Ad : Option Addr) (cd : Nat) (Ao : Option Addr) (co : Nat) (Ak : Option Addr) (ck : Nat) (w : World) (base b N : Nat) (v : Bv) (ys cs : List Int) (ins : Bool) (B : Nat) (g : Good w base b v ys cs ins B) (hi : ItemRd w B n t d o kids Ad Ao Ak) (hl : (ys ++ cs).length + (24 + d.length + 5 * o.length) ≤ 2000000000) (hN : (ys ++ cs).length + (24 + d.length + 5 * o.length) ≤ N) :
    Calls Try.prog 21 #[.pointer (some ⟨b, 0, none⟩), itemV 15 n t d o kids Ad cd Ao co Ak ck] w (DoneP w base b v ys ins N (resCat cs (elem 2 (uocts (n % 18446744073709551616))))) := by
  have g0 := g.item (.cells #[.int .i64 15, .int .i64 n, .int .i64 t, .slice Ad d.length cd, .slice Ao o.length co, .slice Ak kids.len ck] 42)
  obtain ⟨n0, n1⟩ := hi.rn
  obtain ⟨t0, t1⟩ := hi.rt
  have H := Lib.hid (Calls.mono (UintP_gen b v (n % 18446744073709551616) (ys ++ cs) _ base N ins g0.bld g0.err g0.child g0.fixed g0.ready g0.row g0.base (by omega) (by omega) (by omega) (by omega)) (fun e w' h => DoneP.grow (DoneP.cat h) ((Only.refl _ _).alloc _)))
  clear g hi hl g0 hN
  unfold itemV
  go_enter Try.func21, Try.ntmps21
  go_wp2_with fail
  refine H.out.mono ?_
  intro e w' hd
  obtain rfl := hd.ret'
  have HQ := Lib.hid hd
  clear hd H
  go_wp2_with fail
  go_end0
  exact HQ.out

theorem element_err15 (n t : Int) (d o : List Int) (kids : Its) (Ad : Option Addr) (cd : Nat) (Ao : Option Addr) (co : Nat) (Ak : Option Addr) (ck : Nat) (w : World) (b B : Nat) (h : Erred w b) (hi : ItemRd w B n t d o kids Ad Ao Ak) (_hB : B ≤ w.heap.size) :
    Calls Try.prog 21 #[.pointer (some ⟨b, 0, none⟩), itemV 15 n t d o kids Ad cd Ao co Ak ck] w (Idle w) := by
  have H := Lib.hid (uint_err b (n % 18446744073709551616) (w.alloc (.cells #[.int .i64 15, .int .i64 n, .int .i64 t, .slice Ad d.length cd, .slice Ao o.length co, .slice Ak kids.len ck] 42)) (h.alloc _))
  obtain ⟨n0, n1⟩ := hi.rn
  obtain ⟨t0, t1⟩ := hi.rt
  clear h hi
  unfold itemV
  go_enter Try.func21, Try.ntmps21
  go_wp2_with fail
  refine H.out.mono ?_
  rintro e w' ⟨rfl, hk⟩
  have HQ : Hid (Only [] w w') := Lib.hid (((Only.refl _ _).alloc _).trans hk)
  clear hk H
  go_wp2_with fail
  go_end0
  exact ⟨rfl, HQ.out⟩

theorem element_good16 (n t : Int) (d o : List Int) (kids : Its) (Ad : Option Addr) (cd : Nat) (Ao : Option Addr) (co : Nat) (Ak : Option Addr) (ck : Nat) (w : World) (base b N : Nat) (v : Bv) (ys cs : List Int) (ins : Bool) (B : Nat) (g : Good w base b v ys cs ins B) (hi : ItemRd w B n t d o kids Ad Ao Ak) (hl : (ys ++ cs).length + (24 + d.length + 5 * o.length) ≤ 2000000000) (hN : (ys ++ cs).length + (24 + d.length + 5 * o.length) ≤ N) :
    Calls Try.prog 21 #[.pointer (some ⟨b, 0, none⟩), itemV 16 n t d o kids Ad cd Ao co Ak ck] w (DoneP w base b v ys ins N (resCat cs (elem 10 (octs n)))) := by
  have g0 := g.item (.cells #[.int .i64 16, .int .i64 n, .int .i64 t, .slice Ad d.length cd, .slice Ao o.length co, .slice Ak kids.len ck] 42)
  obtain ⟨n0, n1⟩ := hi.rn
  obtain ⟨t0, t1⟩ := hi.rt
  have H := Lib.hid (Calls.mono (EnumP_gen b v n (ys ++ cs) _ base N ins g0.bld g0.err g0.child g0.fixed g0.ready g0.row g0.base (by omega) (by omega) n0 n1) (fun e w' h => DoneP.grow (DoneP.cat h) ((Only.refl _ _).alloc _)))
  clear g hi hl g0 hN
  unfold itemV
  go_enter Try.func21, Try.ntmps21
  go_wp2_with fail
  refine H.out.mono ?_
  intro e w' hd
  obtain rfl := hd.ret'
  have HQ := Lib.hid hd
  clear hd H
  go_wp2_with fail
  go_end0
  exact HQ.out

theorem element_err16 (n t : Int) (d o : List Int) (kids : Its) (Ad : Option Addr) (cd : Nat) (Ao : Option Addr) (co : Nat) (Ak : Option Addr) (ck : Nat) (w : World) (b B : Nat) (h : Erred w b) (hi : ItemRd w B n t d o kids Ad Ao Ak) (_hB : B ≤ w.heap.size) :
    Calls Try.prog 21 #[.pointer (some ⟨b, 0, none⟩), itemV 16 n t d o kids Ad cd Ao co Ak ck] w (Idle w) := by
  have H := Lib.hid (enum_err b n (w.alloc (.cells #[.int .i64 16, .int .i64 n, .int .i64 t, .slice Ad d.length cd, .slice Ao o.length co, .slice Ak kids.len ck] 42)) (h.alloc _))
  obtain ⟨n0, n1⟩ := hi.rn
  obtain ⟨t0, t1⟩ := hi.rt
  clear h hi
  unfold itemV
  go_enter Try.func21, Try.ntmps21
  go_wp2_with fail
  refine H.out.mono ?_
  rintro e w' ⟨rfl, hk⟩
  have HQ : Hid (Only [] w w') := Lib.hid (((Only.refl _ _).alloc _).trans hk)
  clear hk H
  go_wp2_with fail
  go_end0
  exact ⟨rfl, HQ.out⟩

theorem element_good17 (n t : Int) (d o : List Int) (kids : Its) (Ad : Option Addr) (cd : Nat) (Ao : Option Addr) (co : Nat) (Ak : Option Addr) (ck : Nat) (w : World) (base b N : Nat) (v : Bv) (ys cs : List Int) (ins : Bool) (B : Nat) (g : Good w base b v ys cs ins B) (hi : ItemRd w B n t d o kids Ad Ao Ak) (hl : (ys ++ cs).length + (24 + d.length + 5 * o.length) ≤ 2000000000) (_hN : (ys ++ cs).length + (24 + d.length + 5 * o.length) ≤ N) :
    Calls Try.prog 21 #[.pointer (some ⟨b, 0, none⟩), itemV 17 n t d o kids Ad cd Ao co Ak ck] w (DoneP w base b v ys ins N (resCat cs (elem 5 []))) := by
  have g0 := g.item (.cells #[.int .i64 17, .int .i64 n, .int .i64 t, .slice Ad d.length cd, .slice Ao o.length co, .slice Ak kids.len ck] 42)
  obtain ⟨n0, n1⟩ := hi.rn
  obtain ⟨t0, t1⟩ := hi.rt
  have H := Lib.hid (Calls.mono (NullP_gen b v (ys ++ cs) _ base N ins g0.bld g0.err g0.child g0.fixed g0.ready g0.row g0.base (by omega)) (fun e w' h => DoneP.grow (DoneP.cat h) ((Only.refl _ _).alloc _)))
  clear g hi hl g0
  unfold itemV
  go_enter Try.func21, Try.ntmps21
  go_wp2_with fail
  refine H.out.mono ?_
  intro e w' hd
  obtain rfl := hd.ret'
  have HQ := Lib.hid hd
  clear hd H
  go_wp2_with fail
  go_end0
  exact HQ.out

theorem element_err17 (n t : Int) (d o : List Int) (kids : Its) (Ad : Option Addr) (cd : Nat) (Ao : Option Addr) (co : Nat) (Ak : Option Addr) (ck : Nat) (w : World) (b B : Nat) (h : Erred w b) (hi : ItemRd w B n t d o kids Ad Ao Ak) (_hB : B ≤ w.heap.size) :
    Calls Try.prog 21 #[.pointer (some ⟨b, 0, none⟩), itemV 17 n t d o kids Ad cd Ao co Ak ck] w (Idle w) := by
  have H := Lib.hid (null_err b (w.alloc (.cells #[.int .i64 17, .int .i64 n, .int .i64 t, .slice Ad d.length cd, .slice Ao o.length co, .slice Ak kids.len ck] 42)) (h.alloc _))
  obtain ⟨n0, n1⟩ := hi.rn
  obtain ⟨t0, t1⟩ := hi.rt
  clear h hi
  unfold itemV
  go_enter Try.func21, Try.ntmps21
  go_wp2_with fail
  refine H.out.mono ?_
  rintro e w' ⟨rfl, hk⟩
  have HQ : Hid (Only [] w w') := Lib.hid (((Only.refl _ _).alloc _).trans hk)
  clear hk H
  go_wp2_with fail
  go_end0
  exact ⟨rfl, HQ.out⟩

theorem element_good12 (n t : Int) (d o : List Int) (kids : Its) (Ad : Option Addr) (cd : Nat) (Ao : Option Addr) (co : Nat) (Ak : Option Addr) (ck : Nat) (w : World) (base b N : Nat) (v : Bv) (ys cs : List Int) (ins : Bool) (B : Nat) (g : Good w base b v ys cs ins B) (hi : ItemRd w B n t d o kids Ad Ao Ak) (hl : (ys ++ cs).length + (24 + d.length + 5 * o.length) ≤ 2000000000) (hN : (ys ++ cs).length + (24 + d.length + 5 * o.length) ≤ N) :
    Calls Try.prog 21 #[.pointer (some ⟨b, 0, none⟩), itemV 12 n t d o kids Ad cd Ao co Ak ck] w (DoneP w base b v ys ins N (resCat cs (elem 1 [if n = 1 then 255 else 0]))) := by
  have g0 := g.item (.cells #[.int .i64 12, .int .i64 n, .int .i64 t, .slice Ad d.length cd, .slice Ao o.length co, .slice Ak kids.len ck] 42)
  have H := Lib.hid (fun x => Calls.mono (BoolP_gen b v x (ys ++ cs) _ base N ins g0.bld g0.err g0.child g0.fixed g0.ready g0.row g0.base (by omega) (by omega)) (fun e w' h => DoneP.grow (DoneP.cat h) ((Only.refl _ _).alloc _)))
  obtain ⟨n0, n1⟩ := hi.rn
  clear g hi hl g0 hN
  unfold itemV
  by_cases hn : n = 1
  · have hb : (n == 1) = true := by simpa using hn
    rw [if_pos hn]
    clear hn
    go_enter Try.func21, Try.ntmps21
    go_wp2_with fail
    refine (H.out true).mono ?_
    intro e w' hd
    obtain rfl := hd.ret'
    have HQ := Lib.hid hd
    clear hd H
    go_wp2_with fail
    go_end0
    exact HQ.out
  · have hb : (n == 1) = false := by simpa using hn
    rw [if_neg hn]
    clear hn
    go_enter Try.func21, Try.ntmps21
    go_wp2_with fail
    refine (H.out false).mono ?_
    intro e w' hd
    obtain rfl := hd.ret'
    have HQ := Lib.hid hd
    clear hd H
    go_wp2_with fail
    go_end0
    exact HQ.out

theorem element_err12 (n t : Int) (d o : List Int) (kids : Its) (Ad : Option Addr) (cd : Nat) (Ao : Option Addr) (co : Nat) (Ak : Option Addr) (ck : Nat) (w : World) (b B : Nat) (h : Erred w b) (hi : ItemRd w B n t d o kids Ad Ao Ak) (_hB : B ≤ w.heap.size) :
    Calls Try.prog 21 #[.pointer (some ⟨b, 0, none⟩), itemV 12 n t d o kids Ad cd Ao co Ak ck] w (Idle w) := by
  have H := Lib.hid (fun x => bool_err b x (w.alloc (.cells #[.int .i64 12, .int .i64 n, .int .i64 t, .slice Ad d.length cd, .slice Ao o.length co, .slice Ak kids.len ck] 42)) (h.alloc _))
  obtain ⟨n0, n1⟩ := hi.rn
  clear h hi
  unfold itemV
  by_cases hn : n = 1
  all_goals
    first | (have hb : (n == 1) = true := by simpa using hn) | (have hb : (n == 1) = false := by simpa using hn)
    clear hn
    go_enter Try.func21, Try.ntmps21
    go_wp2_with fail
    refine (H.out _).mono ?_
    rintro e w' ⟨rfl, hk⟩
    have HQ : Hid (Only [] w w') := Lib.hid (((Only.refl _ _).alloc _).trans hk)
    clear hk H
    go_wp2_with fail
    go_end0
    exact ⟨rfl, HQ.out⟩

theorem element_good18 (n t : Int) (d o : List Int) (kids : Its) (Ad : Option Addr) (cd : Nat) (Ao : Option Addr) (co : Nat) (Ak : Option Addr) (ck : Nat) (w : World) (base b N : Nat) (v : Bv) (ys cs : List Int) (ins : Bool) (B : Nat) (g : Good w base b v ys cs ins B) (hi : ItemRd w B n t d o kids Ad Ao Ak) (hl : (ys ++ cs).length + (24 + d.length + 5 * o.length) ≤ 2000000000) (hN : (ys ++ cs).length + (24 + d.length + 5 * o.length) ≤ N) :
    Calls Try.prog 21 #[.pointer (some ⟨b, 0, none⟩), itemV 18 n t d o kids Ad cd Ao co Ak ck] w (DoneP w base b v ys ins N (resCat cs (elem 4 d))) := by
  have g0 := g.item (.cells #[.int .i64 18, .int .i64 n, .int .i64 t, .slice Ad d.length cd, .slice Ao o.length co, .slice Ak kids.len ck] 42)
  have i0 := hi.alloc g.hB (.cells #[.int .i64 18, .int .i64 n, .int .i64 t, .slice Ad d.length cd, .slice Ao o.length co, .slice Ak kids.len ck] 42)
  have hdl := hi.dl
  have C := Lib.hid (copied_any Ad d.length cd d _ B i0.rd rfl (by omega))
  have H := Lib.hid (fun w1 (hk : Only [] (w.alloc (.cells #[.int .i64 18, .int .i64 n, .int .i64 t, .slice Ad d.length cd, .slice Ao o.length co, .slice Ak kids.len ck] 42)) w1) (A1 : Option Addr) (c1 : Nat) (hr : Row w1 (w.alloc (.cells #[.int .i64 18, .int .i64 n, .int .i64 t, .slice Ad d.length cd, .slice Ao o.length co, .slice Ak kids.len ck] 42)).heap.size (.slice A1 d.length c1) d) => Calls.mono (OctetP_gen b v A1 c1 d _ (ys ++ cs) w1 base N ins (g0.grow hk).bld g.err g.child g.fixed (g0.grow hk).ready (g0.grow hk).row (g0.grow hk).base (by omega) (by omega) hr g0.lt hdl) (fun e w' h => DoneP.grow (DoneP.grow (DoneP.cat h) hk) ((Only.refl _ _).alloc _)))
  have HY := Lib.hid hi.rd.byt
  obtain ⟨n0, n1⟩ := hi.rn
  clear g hi hl g0 i0 hdl hN
  unfold itemV
  go_enter Try.func21, Try.ntmps21
  go_wp2_with fail
  refine C.out.mono ?_
  rintro e w1 ⟨A1, c1, rfl, hc1, hm1, hown, hk⟩
  have H1 := Lib.hid (H.out w1 hk A1 c1 ⟨HY.out, by simpa using hown⟩)
  clear hc1 hm1 hown hk H C
  go_wp2_with fail
  refine H1.out.mono ?_
  intro e w' hd
  obtain rfl := hd.ret'
  have HQ := Lib.hid hd
  clear hd H1
  go_wp2_with fail
  go_end0
  exact HQ.out

theorem element_err18 (n t : Int) (d o : List Int) (kids : Its) (Ad : Option Addr) (cd : Nat) (Ao : Option Addr) (co : Nat) (Ak : Option Addr) (ck : Nat) (w : World) (b B : Nat) (h : Erred w b) (hi : ItemRd w B n t d o kids Ad Ao Ak) (hB : B ≤ w.heap.size) :
    Calls Try.prog 21 #[.pointer (some ⟨b, 0, none⟩), itemV 18 n t d o kids Ad cd Ao co Ak ck] w (Idle w) := by
  have i0 := hi.alloc hB (.cells #[.int .i64 18, .int .i64 n, .int .i64 t, .slice Ad d.length cd, .slice Ao o.length co, .slice Ak kids.len ck] 42)
  have hdl := hi.dl
  have C := Lib.hid (copied_any Ad d.length cd d _ B i0.rd rfl (by omega))
  have H := Lib.hid (fun w1 (hk : Only [] w w1) (A1 : Option Addr) (c1 : Nat) => octet_err b A1 d.length c1 w1 (h.only hk))
  obtain ⟨n0, n1⟩ := hi.rn
  clear h hi hB i0 hdl
  unfold itemV
  go_enter Try.func21, Try.ntmps21
  go_wp2_with fail
  refine C.out.mono ?_
  rintro e w1 ⟨A1, c1, rfl, hc1, hm1, hown, hk⟩
  have hk1 : Only [] w w1 := ((Only.refl _ _).alloc _).trans hk
  have H1 := Lib.hid (H.out w1 hk1 A1 c1)
  have K1 := Lib.hid hk1
  clear hc1 hm1 hown hk hk1 H C
  go_wp2_with fail
  refine H1.out.mono ?_
  rintro e w' ⟨rfl, hk⟩
  have HQ : Hid (Only [] w w') := Lib.hid (K1.out.trans hk)
  clear hk H1
  go_wp2_with fail
  go_end0
  exact ⟨rfl, HQ.out⟩

theorem element_good19 (n t : Int) (d o : List Int) (kids : Its) (Ad : Option Addr) (cd : Nat) (Ao : Option Addr) (co : Nat) (Ak : Option Addr) (ck : Nat) (w : World) (base b N : Nat) (v : Bv) (ys cs : List Int) (ins : Bool) (B : Nat) (g : Good w base b v ys cs ins B) (hi : ItemRd w B n t d o kids Ad Ao Ak) (hl : (ys ++ cs).length + (24 + d.length + 5 * o.length) ≤ 2000000000) (hN : (ys ++ cs).length + (24 + d.length + 5 * o.length) ≤ N) :
    Calls Try.prog 21 #[.pointer (some ⟨b, 0, none⟩), itemV 19 n t d o kids Ad cd Ao co Ak ck] w (DoneP w base b v ys ins N (resCat cs (elem 3 (0 :: d)))) := by
  have g0 := g.item (.cells #[.int .i64 19, .int .i64 n, .int .i64 t, .slice Ad d.length cd, .slice Ao o.length co, .slice Ak kids.len ck] 42)
  have i0 := hi.alloc g.hB (.cells #[.int .i64 19, .int .i64 n, .int .i64 t, .slice Ad d.length cd, .slice Ao o.length co, .slice Ak kids.len ck] 42)
  have hdl := hi.dl
  have C := Lib.hid (copied_any Ad d.length cd d _ B i0.rd rfl (by omega))
  have H := Lib.hid (fun w1 (hk : Only [] (w.alloc (.cells #[.int .i64 19, .int .i64 n, .int .i64 t, .slice Ad d.length cd, .slice Ao o.length co, .slice Ak kids.len ck] 42)) w1) (A1 : Option Addr) (c1 : Nat) (hr : Row w1 (w.alloc (.cells #[.int .i64 19, .int .i64 n, .int .i64 t, .slice Ad d.length cd, .slice Ao o.length co, .slice Ak kids.len ck] 42)).heap.size (.slice A1 d.length c1) d) => Calls.mono (BitsP_gen b v A1 c1 d _ (ys ++ cs) w1 base N ins (g0.grow hk).bld g.err g.child g.fixed (g0.grow hk).ready (g0.grow hk).row (g0.grow hk).base (by omega) (by omega) hr g0.lt hdl) (fun e w' h => DoneP.grow (DoneP.grow (DoneP.cat h) hk) ((Only.refl _ _).alloc _)))
  have HY := Lib.hid hi.rd.byt
  obtain ⟨n0, n1⟩ := hi.rn
  clear g hi hl g0 i0 hdl hN
  unfold itemV
  go_enter Try.func21, Try.ntmps21
  go_wp2_with fail
  refine C.out.mono ?_
  rintro e w1 ⟨A1, c1, rfl, hc1, hm1, hown, hk⟩
  have H1 := Lib.hid (H.out w1 hk A1 c1 ⟨HY.out, by simpa using hown⟩)
  clear hc1 hm1 hown hk H C
  go_wp2_with fail
  refine H1.out.mono ?_
  intro e w' hd
  obtain rfl := hd.ret'
  have HQ := Lib.hid hd
  clear hd H1
  go_wp2_with fail
  go_end0
  exact HQ.out

theorem element_err19 (n t : Int) (d o : List Int) (kids : Its) (Ad : Option Addr) (cd : Nat) (Ao : Option Addr) (co : Nat) (Ak : Option Addr) (ck : Nat) (w : World) (b B : Nat) (h : Erred w b) (hi : ItemRd w B n t d o kids Ad Ao Ak) (hB : B ≤ w.heap.size) :
    Calls Try.prog 21 #[.pointer (some ⟨b, 0, none⟩), itemV 19 n t d o kids Ad cd Ao co Ak ck] w (Idle w) := by
  have i0 := hi.alloc hB (.cells #[.int .i64 19, .int .i64 n, .int .i64 t, .slice Ad d.length cd, .slice Ao o.length co, .slice Ak kids.len ck] 42)
  have hdl := hi.dl
  have C := Lib.hid (copied_any Ad d.length cd d _ B i0.rd rfl (by omega))
  have H := Lib.hid (fun w1 (hk : Only [] w w1) (A1 : Option Addr) (c1 : Nat) => bits_err b A1 d.length c1 w1 (h.only hk))
  obtain ⟨n0, n1⟩ := hi.rn
  clear h hi hB i0 hdl
  unfold itemV
  go_enter Try.func21, Try.ntmps21
  go_wp2_with fail
  refine C.out.mono ?_
  rintro e w1 ⟨A1, c1, rfl, hc1, hm1, hown, hk⟩
  have hk1 : Only [] w w1 := ((Only.refl _ _).alloc _).trans hk
  have H1 := Lib.hid (H.out w1 hk1 A1 c1)
  have K1 := Lib.hid hk1
  clear hc1 hm1 hown hk hk1 H C
  go_wp2_with fail
  refine H1.out.mono ?_
  rintro e w' ⟨rfl, hk⟩
  have HQ : Hid (Only [] w w') := Lib.hid (K1.out.trans hk)
  clear hk H1
  go_wp2_with fail
  go_end0
  exact ⟨rfl, HQ.out⟩

theorem element_good20 (n t : Int) (d o : List Int) (kids : Its) (Ad : Option Addr) (cd : Nat) (Ao : Option Addr) (co : Nat) (Ak : Option Addr) (ck : Nat) (w : World) (base b N : Nat) (v : Bv) (ys cs : List Int) (ins : Bool) (B : Nat) (g : Good w base b v ys cs ins B) (hi : ItemRd w B n t d o kids Ad Ao Ak) (hl : (ys ++ cs).length + (24 + d.length + 5 * o.length) ≤ 2000000000) (hN : (ys ++ cs).length + (24 + d.length + 5 * o.length) ≤ N) :
    Calls Try.prog 21 #[.pointer (some ⟨b, 0, none⟩), itemV 20 n t d o kids Ad cd Ao co Ak ck] w (DoneP w base b v ys ins N (resCat cs ((oidCs o).bind (elem 6)))) := by
  have g0 := g.item (.cells #[.int .i64 20, .int .i64 n, .int .i64 t, .slice Ad d.length cd, .slice Ao o.length co, .slice Ak kids.len ck] 42)
  have i0 := hi.alloc g.hB (.cells #[.int .i64 20, .int .i64 n, .int .i64 t, .slice Ad d.length cd, .slice Ao o.length co, .slice Ak kids.len ck] 42)
  have hol := hi.ol
  have HC := Lib.hid i0.ro
  have HOL := Lib.hid hol
  have H := Lib.hid (fun w1 (hk : Only [] (w.alloc (.cells #[.int .i64 20, .int .i64 n, .int .i64 t, .slice Ad d.length cd, .slice Ao o.length co, .slice Ak kids.len ck] 42)) w1) (A1 : Option Addr) (c1 : Nat) (hr : RowI w1 (w.heap.size + 1) (.slice A1 o.length c1) o) => Calls.mono (OidP_gen b v A1 c1 o _ (ys ++ cs) w1 base N ins (g0.grow hk).bld g.err g.child g.fixed (g0.grow hk).ready (g0.grow hk).row (g0.grow hk).base (by omega) (by omega) hr (fun k hk => by have := g0.lt k hk; simpa using this) hol hi.om) (fun e w' h => DoneP.grow (DoneP.grow (DoneP.cat h) hk) ((Only.refl _ _).alloc _)))
  obtain ⟨n0, n1⟩ := hi.rn
  clear g hi hl g0 i0 hol hN
  unfold itemV
  go_enter Try.func21, Try.ntmps21
  go_wp2_with (at_builtin; refine wpList_rowI rfl _ _ rfl rfl (w.heap.size + 1) B (.slice none 0 0) [] o Ao o.length co rfl rfl (RowI.nil _ _) HC.out rfl ?pg1 ?pg2 ?_)
  case pg1 => simp
  case pg2 => have := HOL.out; simp; omega
  intro v' w1 hr1 hk1 _
  obtain ⟨A1, c1, rfl, _, _, _⟩ := hr1.form
  have hk1' : Only [] (w.alloc (.cells #[.int .i64 20, .int .i64 n, .int .i64 t, .slice Ad d.length cd, .slice Ao o.length co, .slice Ak kids.len ck] 42)) w1 := hk1
  have H1 := Lib.hid (H.out w1 hk1' A1 c1 hr1)
  clear hr1 hk1 hk1' H HC
  go_wp2_with fail
  refine H1.out.mono ?_
  intro e w' hd
  obtain rfl := hd.ret'
  have HQ := Lib.hid hd
  clear hd H1
  go_wp2_with fail
  go_end0
  exact HQ.out

theorem element_err20 (n t : Int) (d o : List Int) (kids : Its) (Ad : Option Addr) (cd : Nat) (Ao : Option Addr) (co : Nat) (Ak : Option Addr) (ck : Nat) (w : World) (b B : Nat) (h : Erred w b) (hi : ItemRd w B n t d o kids Ad Ao Ak) (hB : B ≤ w.heap.size) :
    Calls Try.prog 21 #[.pointer (some ⟨b, 0, none⟩), itemV 20 n t d o kids Ad cd Ao co Ak ck] w (Idle w) := by
  have i0 := hi.alloc hB (.cells #[.int .i64 20, .int .i64 n, .int .i64 t, .slice Ad d.length cd, .slice Ao o.length co, .slice Ak kids.len ck] 42)
  have HC := Lib.hid i0.ro
  have HOL := Lib.hid hi.ol
  have H := Lib.hid (fun w1 (hk : Only [] w w1) (A1 : Option Addr) (c1 : Nat) => oid_err b A1 o.length c1 w1 (h.only hk))
  obtain ⟨n0, n1⟩ := hi.rn
  clear h hi hB i0
  unfold itemV
  go_enter Try.func21, Try.ntmps21
  go_wp2_with (at_builtin; refine wpList_rowI rfl _ _ rfl rfl (w.heap.size + 1) B (.slice none 0 0) [] o Ao o.length co rfl rfl (RowI.nil _ _) HC.out rfl ?pe1 ?pe2 ?_)
  case pe1 => simp
  case pe2 => have := HOL.out; simp; omega
  intro v' w1 hr1 hk1 _
  obtain ⟨A1, c1, rfl, _, _, _⟩ := hr1.form
  have hk1' : Only [] (w.alloc (.cells #[.int .i64 20, .int .i64 n, .int .i64 t, .slice Ad d.length cd, .slice Ao o.length co, .slice Ak kids.len ck] 42)) w1 := hk1
  have hk2 : Only [] w w1 := ((Only.refl _ _).alloc _).trans hk1'
  have H1 := Lib.hid (H.out w1 hk2 A1 c1)
  have K1 := Lib.hid hk2
  clear hr1 hk1 hk1' hk2 H HC
  go_wp2_with fail
  refine H1.out.mono ?_
  rintro e w' ⟨rfl, hk⟩
  have HQ : Hid (Only [] w w') := Lib.hid (K1.out.trans hk)
  clear hk H1
  go_wp2_with fail
  go_end0
  exact ⟨rfl, HQ.out⟩

end Go.Proofs.Ytndnglpehghmeaa

/-! ### Steps that have steps within, in a continuation: contracts. -/
namespace Go.Proofs.Ytndnglpehghmeaa
open Go.RowKit

/-- Steps at a builder that has no error. -/
def StepsOK (its : Its) : Prop := ∀ (ins : Bool) (b : Nat) (v : Bv) (ys cs : List Int) (w : World) (base B : Nat) (A : Option Addr) (n c N : Nat) (res : Res), Good w base b v ys cs ins B → ItsRd w B A its → n = its.len → Ok its ins → Rng its → run its ins cs = some res →
  (ys ++ cs).length + wt its ≤ 2000000000 → wt its ≤ 4000000 → (ys ++ cs).length + wt its ≤ N → Calls Try.prog 10 #[.pointer (some ⟨b, 0, none⟩), .slice A n c] w (DoneP w base b v ys ins N res)
/-- What steps leave of a builder that has an error. -/
def ErrP (w : World) (b : Nat) (o : Res) (e : Ending) (w' : World) : Prop :=
  Only [b] w w' ∧ Erred w' b ∧ (match o with
   | .pan => ∃ T u, e = .panicked [panE T u]
   | _ => e = .returned (.tuple #[]))
def StepsErr (its : Its) : Prop := ∀ (ins : Bool) (b : Nat) (w : World) (B : Nat) (A : Option Addr) (n c : Nat), Erred w b → ItsRd w B A its → n = its.len → Ok its ins → Rng its → B ≤ w.heap.size → B ≤ b → wt its ≤ 4000000 →
  Calls Try.prog 10 #[.pointer (some ⟨b, 0, none⟩), .slice A n c] w (ErrP w b (runE its))

theorem within_any (A : Option Addr) (n c : Nat) (w : World) : Calls Try.prog 36 #[.slice A n c] w fun e w' => e = .returned (.func (.func 57) #[] #[.pointer (some ⟨w.heap.size, 0, none⟩)]) ∧ w' = w.alloc (.cells #[.slice A n c] 22) := by
  have hmf : ∀ (fn : Fn) (first cap : Array Value) (w : World), (Instr.makeFunc fn first cap).run Try.prog w = .ok (.func fn first cap) w := fun _ _ _ _ => rfl
  go_enter Try.func36, Try.ntmps36
  go_wp2_with fail
  go_ret
  exact ⟨rfl, rfl⟩

theorem DoneP.toC {W w' : World} {base c N : Nat} {vc : Bv} {zs : List Int} {o : Res} {e : Ending} (h : DoneP W base c vc zs true N o e w') : ContP W base c vc zs N o e w' := by
  obtain ⟨h1, h2⟩ := h
  refine ⟨h1.more (fun k hk _ => by simpa [LL] using hk), ?_⟩
  cases o with
  | good cs =>
    obtain ⟨he, r, i, h3, h4, h5, _, h7, _⟩ := h2
    refine ⟨he, r, ?_, h4, h5⟩
    rw [h7 rfl] at h3
    exact h3
  | err => exact h2
  | pan => exact h2.2
theorem within_cont (x : Nat) (kids : Its) (A : Option Addr) (c0 : Nat) (w : World) (base B : Nat) (L : List Nat) (res : Res) (hx : ∀ W, Only L w W → Var W x 22 (.slice A kids.len c0)) (hi : ItsRd w B A kids) (hL : ∀ k ∈ L, B ≤ k) (hB : B ≤ w.heap.size)
    (hk : StepsOK kids) (hok : Ok kids true) (hrg : Rng kids) (hw : wt kids ≤ 4000000) (hr : run kids true [] = some res) : ContOKP w base L 57 #[.pointer (some ⟨x, 0, none⟩)] (wt kids) res := by
  intro W c vc zs bi ho hc hb he hch hf hrow hz hbase hbinc hbiv hbown hoff
  have hv := hx W ho
  have hcell := hv.cell
  have g : Good W base c vc zs [] true B := ⟨hb, he, hch, hf, .inr ⟨bi, hbinc, hbiv⟩, by rw [List.append_nil]; exact hrow, hbase, hoff, by
    intro k hk
    simp only [LL, List.mem_cons, List.mem_append] at hk
    rcases hk with rfl | hk | hk
    · omega
    · simp at hk
    · rcases hbown k hk with h | h
      · exact hL k h
      · omega, Nat.le_trans hB ho.size⟩
  have H := Lib.hid (Calls.mono (hk true c vc zs [] W base B A kids.len c0 (zs.length + wt kids) res g (hi.only ho hL hB) rfl hok hrg hr (by rw [List.append_nil]; exact hz) hw (by rw [List.append_nil]; exact Nat.le_refl _)) (fun e w' h => DoneP.toC h))
  show Calls Try.prog 57 #[.pointer (some ⟨c, 0, none⟩), .pointer (some ⟨x, 0, none⟩)] W _
  clear hx hi hL hB hk hok hrg hw hr ho hc hb he hch hf hrow hz hbase hbinc hbiv hbown hoff hv g
  go_enter Try.func57, Try.ntmps57
  go_wp2_with fail
  refine H.out.mono ?_
  intro e w' hd
  rcases hd.retpan with rfl | ⟨T, u, rfl⟩
  · have HQ := Lib.hid hd
    clear hd H
    go_wp2_with fail
    go_end0
    exact HQ.out
  · exact ⟨rfl, hd⟩

theorem nested_good7 (n t : Int) (d o : List Int) (kids : Its) (Ad : Option Addr) (cd : Nat) (Ao : Option Addr) (co : Nat) (Ak : Option Addr) (ck : Nat) (w : World) (base b N : Nat) (v : Bv) (ys cs : List Int) (ins : Bool) (B : Nat) (g : Good w base b v ys cs ins B) (hi : ItemRd w B n t d o kids Ad Ao Ak) (hl : (ys ++ cs).length + (24 + wt kids) ≤ 2000000000) (hN : (ys ++ cs).length + (24 + wt kids) ≤ N) (hk : StepsOK kids) (hok : Ok kids true) (hrg : Rng kids) (hw : wt kids ≤ 4000000) (r : Res) (hr : run kids true [] = some r) :
    Calls Try.prog 20 #[.pointer (some ⟨b, 0, none⟩), itemV 7 n t d o kids Ad cd Ao co Ak ck] w (DoneP w base b v ys ins N ((lpRes false 1 ins r).pre cs)) := by
  have g0 := g.item (.cells #[.int .i64 7, .int .i64 n, .int .i64 t, .slice Ad d.length cd, .slice Ao o.length co, .slice Ak kids.len ck] 42)
  have g1 := g0.item (.cells #[.slice Ak kids.len ck] 22)
  have i1 := (hi.alloc g.hB (.cells #[.int .i64 7, .int .i64 n, .int .i64 t, .slice Ad d.length cd, .slice Ao o.length co, .slice Ak kids.len ck] 42)).alloc g0.hB (.cells #[.slice Ak kids.len ck] 22)
  have hsz : (w.alloc (.cells #[.int .i64 7, .int .i64 n, .int .i64 t, .slice Ad d.length cd, .slice Ao o.length co, .slice Ak kids.len ck] 42)).heap.size = w.heap.size + 1 := by simp
  have WI := within_any Ak kids.len ck (w.alloc (.cells #[.int .i64 7, .int .i64 n, .int .i64 t, .slice Ad d.length cd, .slice Ao o.length co, .slice Ak kids.len ck] 42))
  rw [hsz] at WI
  have CC := within_cont (w.heap.size + 1) kids Ak ck ((w.alloc (.cells #[.int .i64 7, .int .i64 n, .int .i64 t, .slice Ad d.length cd, .slice Ao o.length co, .slice Ak kids.len ck] 42)).alloc (.cells #[.slice Ak kids.len ck] 22)) base B (LL ins b v) r (fun W ho => by
    have hnew := Var.new (w.alloc (.cells #[.int .i64 7, .int .i64 n, .int .i64 t, .slice Ad d.length cd, .slice Ao o.length co, .slice Ak kids.len ck] 42)) 22 (.slice Ak kids.len ck)
    rw [hsz] at hnew
    refine hnew.only ho (fun hm => ?_)
    have := g0.lt _ hm
    omega) i1.rk g.low g1.hB hk hok hrg hw hr
  have H := Lib.hid (Calls.mono (BAddLP8_gen b v 57 #[.pointer (some ⟨w.heap.size + 1, 0, none⟩)] (ys ++ cs) r _ base (wt kids) N ins (fun _ _ => rfl) g1.bld g1.err g1.child g1.fixed g1.ready g1.row g1.base (by omega) (by omega) (fun bs hb => by subst hb; simpa using run_le kids true true [] bs hrg hok hr) CC) (fun e w' h => DoneP.grow (DoneP.own h) (((Only.refl _ _).alloc (.cells #[.int .i64 7, .int .i64 n, .int .i64 t, .slice Ad d.length cd, .slice Ao o.length co, .slice Ak kids.len ck] 42)).alloc (.cells #[.slice Ak kids.len ck] 22))))
  have HW := Lib.hid WI
  clear g hi hl hN g0 g1 i1 CC WI hsz hk hok hrg hw hr
  unfold itemV
  go_enter Try.func20, Try.ntmps20
  go_wp2_with fail
  refine HW.out.mono ?_
  rintro e w1 ⟨rfl, rfl⟩
  go_wp2_with fail
  refine H.out.mono ?_
  intro e w' hd
  rcases hd.pan_or with rfl | ⟨T, u, rfl⟩
  · have HQ := Lib.hid hd
    clear hd H
    go_wp2_with fail
    go_end0
    exact HQ.out
  · exact ⟨rfl, hd⟩

theorem nested_err7 (n t : Int) (d o : List Int) (kids : Its) (Ad : Option Addr) (cd : Nat) (Ao : Option Addr) (co : Nat) (Ak : Option Addr) (ck : Nat) (w : World) (b B : Nat) (h : Erred w b) (_hi : ItemRd w B n t d o kids Ad Ao Ak) :
    Calls Try.prog 20 #[.pointer (some ⟨b, 0, none⟩), itemV 7 n t d o kids Ad cd Ao co Ak ck] w (Idle w) := by
  have hsz : (w.alloc (.cells #[.int .i64 7, .int .i64 n, .int .i64 t, .slice Ad d.length cd, .slice Ao o.length co, .slice Ak kids.len ck] 42)).heap.size = w.heap.size + 1 := by simp
  have WI := within_any Ak kids.len ck (w.alloc (.cells #[.int .i64 7, .int .i64 n, .int .i64 t, .slice Ad d.length cd, .slice Ao o.length co, .slice Ak kids.len ck] 42))
  rw [hsz] at WI
  have H := Lib.hid (lp8_err b 57 #[.pointer (some ⟨w.heap.size + 1, 0, none⟩)] ((w.alloc (.cells #[.int .i64 7, .int .i64 n, .int .i64 t, .slice Ad d.length cd, .slice Ao o.length co, .slice Ak kids.len ck] 42)).alloc (.cells #[.slice Ak kids.len ck] 22)) ((h.alloc _).alloc _))
  have HW := Lib.hid WI
  clear h WI hsz
  unfold itemV
  go_enter Try.func20, Try.ntmps20
  go_wp2_with fail
  refine HW.out.mono ?_
  rintro e w1 ⟨rfl, rfl⟩
  go_wp2_with fail
  refine H.out.mono ?_
  rintro e w' ⟨rfl, hk⟩
  have HQ : Hid (Only [] w w') := Lib.hid ((((Only.refl _ _).alloc _).alloc _).trans hk)
  clear hk H
  go_wp2_with fail
  go_end0
  exact ⟨rfl, HQ.out⟩

theorem nested_good8 (n t : Int) (d o : List Int) (kids : Its) (Ad : Option Addr) (cd : Nat) (Ao : Option Addr) (co : Nat) (Ak : Option Addr) (ck : Nat) (w : World) (base b N : Nat) (v : Bv) (ys cs : List Int) (ins : Bool) (B : Nat) (g : Good w base b v ys cs ins B) (hi : ItemRd w B n t d o kids Ad Ao Ak) (hl : (ys ++ cs).length + (24 + wt kids) ≤ 2000000000) (hN : (ys ++ cs).length + (24 + wt kids) ≤ N) (hk : StepsOK kids) (hok : Ok kids true) (hrg : Rng kids) (hw : wt kids ≤ 4000000) (r : Res) (hr : run kids true [] = some r) :
    Calls Try.prog 20 #[.pointer (some ⟨b, 0, none⟩), itemV 8 n t d o kids Ad cd Ao co Ak ck] w (DoneP w base b v ys ins N ((lpRes false 2 ins r).pre cs)) := by
  have g0 := g.item (.cells #[.int .i64 8, .int .i64 n, .int .i64 t, .slice Ad d.length cd, .slice Ao o.length co, .slice Ak kids.len ck] 42)
  have g1 := g0.item (.cells #[.slice Ak kids.len ck] 22)
  have i1 := (hi.alloc g.hB (.cells #[.int .i64 8, .int .i64 n, .int .i64 t, .slice Ad d.length cd, .slice Ao o.length co, .slice Ak kids.len ck] 42)).alloc g0.hB (.cells #[.slice Ak kids.len ck] 22)
  have hsz : (w.alloc (.cells #[.int .i64 8, .int .i64 n, .int .i64 t, .slice Ad d.length cd, .slice Ao o.length co, .slice Ak kids.len ck] 42)).heap.size = w.heap.size + 1 := by simp
  have WI := within_any Ak kids.len ck (w.alloc (.cells #[.int .i64 8, .int .i64 n, .int .i64 t, .slice Ad d.length cd, .slice Ao o.length co, .slice Ak kids.len ck] 42))
  rw [hsz] at WI
  have CC := within_cont (w.heap.size + 1) kids Ak ck ((w.alloc (.cells #[.int .i64 8, .int .i64 n, .int .i64 t, .slice Ad d.length cd, .slice Ao o.length co, .slice Ak kids.len ck] 42)).alloc (.cells #[.slice Ak kids.len ck] 22)) base B (LL ins b v) r (fun W ho => by
    have hnew := Var.new (w.alloc (.cells #[.int .i64 8, .int .i64 n, .int .i64 t, .slice Ad d.length cd, .slice Ao o.length co, .slice Ak kids.len ck] 42)) 22 (.slice Ak kids.len ck)
    rw [hsz] at hnew
    refine hnew.only ho (fun hm => ?_)
    have := g0.lt _ hm
    omega) i1.rk g.low g1.hB hk hok hrg hw hr
  have H := Lib.hid (Calls.mono (BAddLP16_gen b v 57 #[.pointer (some ⟨w.heap.size + 1, 0, none⟩)] (ys ++ cs) r _ base (wt kids) N ins (fun _ _ => rfl) g1.bld g1.err g1.child g1.fixed g1.ready g1.row g1.base (by omega) (by omega) (fun bs hb => by subst hb; simpa using run_le kids true true [] bs hrg hok hr) CC) (fun e w' h => DoneP.grow (DoneP.own h) (((Only.refl _ _).alloc (.cells #[.int .i64 8, .int .i64 n, .int .i64 t, .slice Ad d.length cd, .slice Ao o.length co, .slice Ak kids.len ck] 42)).alloc (.cells #[.slice Ak kids.len ck] 22))))
  have HW := Lib.hid WI
  clear g hi hl hN g0 g1 i1 CC WI hsz hk hok hrg hw hr
  unfold itemV
  go_enter Try.func20, Try.ntmps20
  go_wp2_with fail
  refine HW.out.mono ?_
  rintro e w1 ⟨rfl, rfl⟩
  go_wp2_with fail
  refine H.out.mono ?_
  intro e w' hd
  rcases hd.pan_or with rfl | ⟨T, u, rfl⟩
  · have HQ := Lib.hid hd
    clear hd H
    go_wp2_with fail
    go_end0
    exact HQ.out
  · exact ⟨rfl, hd⟩

theorem nested_err8 (n t : Int) (d o : List Int) (kids : Its) (Ad : Option Addr) (cd : Nat) (Ao : Option Addr) (co : Nat) (Ak : Option Addr) (ck : Nat) (w : World) (b B : Nat) (h : Erred w b) (_hi : ItemRd w B n t d o kids Ad Ao Ak) :
    Calls Try.prog 20 #[.pointer (some ⟨b, 0, none⟩), itemV 8 n t d o kids Ad cd Ao co Ak ck] w (Idle w) := by
  have hsz : (w.alloc (.cells #[.int .i64 8, .int .i64 n, .int .i64 t, .slice Ad d.length cd, .slice Ao o.length co, .slice Ak kids.len ck] 42)).heap.size = w.heap.size + 1 := by simp
  have WI := within_any Ak kids.len ck (w.alloc (.cells #[.int .i64 8, .int .i64 n, .int .i64 t, .slice Ad d.length cd, .slice Ao o.length co, .slice Ak kids.len ck] 42))
  rw [hsz] at WI
  have H := Lib.hid (lp16_err b 57 #[.pointer (some ⟨w.heap.size + 1, 0, none⟩)] ((w.alloc (.cells #[.int .i64 8, .int .i64 n, .int .i64 t, .slice Ad d.length cd, .slice Ao o.length co, .slice Ak kids.len ck] 42)).alloc (.cells #[.slice Ak kids.len ck] 22)) ((h.alloc _).alloc _))
  have HW := Lib.hid WI
  clear h WI hsz
  unfold itemV
  go_enter Try.func20, Try.ntmps20
  go_wp2_with fail
  refine HW.out.mono ?_
  rintro e w1 ⟨rfl, rfl⟩
  go_wp2_with fail
  refine H.out.mono ?_
  rintro e w' ⟨rfl, hk⟩
  have HQ : Hid (Only [] w w') := Lib.hid ((((Only.refl _ _).alloc _).alloc _).trans hk)
  clear hk H
  go_wp2_with fail
  go_end0
  exact ⟨rfl, HQ.out⟩

theorem nested_good9 (n t : Int) (d o : List Int) (kids : Its) (Ad : Option Addr) (cd : Nat) (Ao : Option Addr) (co : Nat) (Ak : Option Addr) (ck : Nat) (w : World) (base b N : Nat) (v : Bv) (ys cs : List Int) (ins : Bool) (B : Nat) (g : Good w base b v ys cs ins B) (hi : ItemRd w B n t d o kids Ad Ao Ak) (hl : (ys ++ cs).length + (24 + wt kids) ≤ 2000000000) (hN : (ys ++ cs).length + (24 + wt kids) ≤ N) (hk : StepsOK kids) (hok : Ok kids true) (hrg : Rng kids) (hw : wt kids ≤ 4000000) (r : Res) (hr : run kids true [] = some r) :
    Calls Try.prog 20 #[.pointer (some ⟨b, 0, none⟩), itemV 9 n t d o kids Ad cd Ao co Ak ck] w (DoneP w base b v ys ins N ((lpRes false 3 ins r).pre cs)) := by
  have g0 := g.item (.cells #[.int .i64 9, .int .i64 n, .int .i64 t, .slice Ad d.length cd, .slice Ao o.length co, .slice Ak kids.len ck] 42)
  have g1 := g0.item (.cells #[.slice Ak kids.len ck] 22)
  have i1 := (hi.alloc g.hB (.cells #[.int .i64 9, .int .i64 n, .int .i64 t, .slice Ad d.length cd, .slice Ao o.length co, .slice Ak kids.len ck] 42)).alloc g0.hB (.cells #[.slice Ak kids.len ck] 22)
  have hsz : (w.alloc (.cells #[.int .i64 9, .int .i64 n, .int .i64 t, .slice Ad d.length cd, .slice Ao o.length co, .slice Ak kids.len ck] 42)).heap.size = w.heap.size + 1 := by simp
  have WI := within_any Ak kids.len ck (w.alloc (.cells #[.int .i64 9, .int .i64 n, .int .i64 t, .slice Ad d.length cd, .slice Ao o.length co, .slice Ak kids.len ck] 42))
  rw [hsz] at WI
  have CC := within_cont (w.heap.size + 1) kids Ak ck ((w.alloc (.cells #[.int .i64 9, .int .i64 n, .int .i64 t, .slice Ad d.length cd, .slice Ao o.length co, .slice Ak kids.len ck] 42)).alloc (.cells #[.slice Ak kids.len ck] 22)) base B (LL ins b v) r (fun W ho => by
    have hnew := Var.new (w.alloc (.cells #[.int .i64 9, .int .i64 n, .int .i64 t, .slice Ad d.length cd, .slice Ao o.length co, .slice Ak kids.len ck] 42)) 22 (.slice Ak kids.len ck)
    rw [hsz] at hnew
    refine hnew.only ho (fun hm => ?_)
    have := g0.lt _ hm
    omega) i1.rk g.low g1.hB hk hok hrg hw hr
  have H := Lib.hid (Calls.mono (BAddLP24_gen b v 57 #[.pointer (some ⟨w.heap.size + 1, 0, none⟩)] (ys ++ cs) r _ base (wt kids) N ins (fun _ _ => rfl) g1.bld g1.err g1.child g1.fixed g1.ready g1.row g1.base (by omega) (by omega) (fun bs hb => by subst hb; simpa using run_le kids true true [] bs hrg hok hr) CC) (fun e w' h => DoneP.grow (DoneP.own h) (((Only.refl _ _).alloc (.cells #[.int .i64 9, .int .i64 n, .int .i64 t, .slice Ad d.length cd, .slice Ao o.length co, .slice Ak kids.len ck] 42)).alloc (.cells #[.slice Ak kids.len ck] 22))))
  have HW := Lib.hid WI
  clear g hi hl hN g0 g1 i1 CC WI hsz hk hok hrg hw hr
  unfold itemV
  go_enter Try.func20, Try.ntmps20
  go_wp2_with fail
  refine HW.out.mono ?_
  rintro e w1 ⟨rfl, rfl⟩
  go_wp2_with fail
  refine H.out.mono ?_
  intro e w' hd
  rcases hd.pan_or with rfl | ⟨T, u, rfl⟩
  · have HQ := Lib.hid hd
    clear hd H
    go_wp2_with fail
    go_end0
    exact HQ.out
  · exact ⟨rfl, hd⟩

theorem nested_err9 (n t : Int) (d o : List Int) (kids : Its) (Ad : Option Addr) (cd : Nat) (Ao : Option Addr) (co : Nat) (Ak : Option Addr) (ck : Nat) (w : World) (b B : Nat) (h : Erred w b) (_hi : ItemRd w B n t d o kids Ad Ao Ak) :
    Calls Try.prog 20 #[.pointer (some ⟨b, 0, none⟩), itemV 9 n t d o kids Ad cd Ao co Ak ck] w (Idle w) := by
  have hsz : (w.alloc (.cells #[.int .i64 9, .int .i64 n, .int .i64 t, .slice Ad d.length cd, .slice Ao o.length co, .slice Ak kids.len ck] 42)).heap.size = w.heap.size + 1 := by simp
  have WI := within_any Ak kids.len ck (w.alloc (.cells #[.int .i64 9, .int .i64 n, .int .i64 t, .slice Ad d.length cd, .slice Ao o.length co, .slice Ak kids.len ck] 42))
  rw [hsz] at WI
  have H := Lib.hid (lp24_err b 57 #[.pointer (some ⟨w.heap.size + 1, 0, none⟩)] ((w.alloc (.cells #[.int .i64 9, .int .i64 n, .int .i64 t, .slice Ad d.length cd, .slice Ao o.length co, .slice Ak kids.len ck] 42)).alloc (.cells #[.slice Ak kids.len ck] 22)) ((h.alloc _).alloc _))
  have HW := Lib.hid WI
  clear h WI hsz
  unfold itemV
  go_enter Try.func20, Try.ntmps20
  go_wp2_with fail
  refine HW.out.mono ?_
  rintro e w1 ⟨rfl, rfl⟩
  go_wp2_with fail
  refine H.out.mono ?_
  rintro e w' ⟨rfl, hk⟩
  have HQ : Hid (Only [] w w') := Lib.hid ((((Only.refl _ _).alloc _).alloc _).trans hk)
  clear hk H
  go_wp2_with fail
  go_end0
  exact ⟨rfl, HQ.out⟩

theorem nested_good10 (n t : Int) (d o : List Int) (kids : Its) (Ad : Option Addr) (cd : Nat) (Ao : Option Addr) (co : Nat) (Ak : Option Addr) (ck : Nat) (w : World) (base b N : Nat) (v : Bv) (ys cs : List Int) (ins : Bool) (B : Nat) (g : Good w base b v ys cs ins B) (hi : ItemRd w B n t d o kids Ad Ao Ak) (hl : (ys ++ cs).length + (24 + wt kids) ≤ 2000000000) (hN : (ys ++ cs).length + (24 + wt kids) ≤ N) (hk : StepsOK kids) (hok : Ok kids true) (hrg : Rng kids) (hw : wt kids ≤ 4000000) (r : Res) (hr : run kids true [] = some r) :
    Calls Try.prog 20 #[.pointer (some ⟨b, 0, none⟩), itemV 10 n t d o kids Ad cd Ao co Ak ck] w (DoneP w base b v ys ins N ((lpRes false 4 ins r).pre cs)) := by
  have g0 := g.item (.cells #[.int .i64 10, .int .i64 n, .int .i64 t, .slice Ad d.length cd, .slice Ao o.length co, .slice Ak kids.len ck] 42)
  have g1 := g0.item (.cells #[.slice Ak kids.len ck] 22)
  have i1 := (hi.alloc g.hB (.cells #[.int .i64 10, .int .i64 n, .int .i64 t, .slice Ad d.length cd, .slice Ao o.length co, .slice Ak kids.len ck] 42)).alloc g0.hB (.cells #[.slice Ak kids.len ck] 22)
  have hsz : (w.alloc (.cells #[.int .i64 10, .int .i64 n, .int .i64 t, .slice Ad d.length cd, .slice Ao o.length co, .slice Ak kids.len ck] 42)).heap.size = w.heap.size + 1 := by simp
  have WI := within_any Ak kids.len ck (w.alloc (.cells #[.int .i64 10, .int .i64 n, .int .i64 t, .slice Ad d.length cd, .slice Ao o.length co, .slice Ak kids.len ck] 42))
  rw [hsz] at WI
  have CC := within_cont (w.heap.size + 1) kids Ak ck ((w.alloc (.cells #[.int .i64 10, .int .i64 n, .int .i64 t, .slice Ad d.length cd, .slice Ao o.length co, .slice Ak kids.len ck] 42)).alloc (.cells #[.slice Ak kids.len ck] 22)) base B (LL ins b v) r (fun W ho => by
    have hnew := Var.new (w.alloc (.cells #[.int .i64 10, .int .i64 n, .int .i64 t, .slice Ad d.length cd, .slice Ao o.length co, .slice Ak kids.len ck] 42)) 22 (.slice Ak kids.len ck)
    rw [hsz] at hnew
    refine hnew.only ho (fun hm => ?_)
    have := g0.lt _ hm
    omega) i1.rk g.low g1.hB hk hok hrg hw hr
  have H := Lib.hid (Calls.mono (BAddLP32_gen b v 57 #[.pointer (some ⟨w.heap.size + 1, 0, none⟩)] (ys ++ cs) r _ base (wt kids) N ins (fun _ _ => rfl) g1.bld g1.err g1.child g1.fixed g1.ready g1.row g1.base (by omega) (by omega) (fun bs hb => by subst hb; simpa using run_le kids true true [] bs hrg hok hr) CC) (fun e w' h => DoneP.grow (DoneP.own h) (((Only.refl _ _).alloc (.cells #[.int .i64 10, .int .i64 n, .int .i64 t, .slice Ad d.length cd, .slice Ao o.length co, .slice Ak kids.len ck] 42)).alloc (.cells #[.slice Ak kids.len ck] 22))))
  have HW := Lib.hid WI
  clear g hi hl hN g0 g1 i1 CC WI hsz hk hok hrg hw hr
  unfold itemV
  go_enter Try.func20, Try.ntmps20
  go_wp2_with fail
  refine HW.out.mono ?_
  rintro e w1 ⟨rfl, rfl⟩
  go_wp2_with fail
  refine H.out.mono ?_
  intro e w' hd
  rcases hd.pan_or with rfl | ⟨T, u, rfl⟩
  · have HQ := Lib.hid hd
    clear hd H
    go_wp2_with fail
    go_end0
    exact HQ.out
  · exact ⟨rfl, hd⟩

theorem nested_err10 (n t : Int) (d o : List Int) (kids : Its) (Ad : Option Addr) (cd : Nat) (Ao : Option Addr) (co : Nat) (Ak : Option Addr) (ck : Nat) (w : World) (b B : Nat) (h : Erred w b) (_hi : ItemRd w B n t d o kids Ad Ao Ak) :
    Calls Try.prog 20 #[.pointer (some ⟨b, 0, none⟩), itemV 10 n t d o kids Ad cd Ao co Ak ck] w (Idle w) := by
  have hsz : (w.alloc (.cells #[.int .i64 10, .int .i64 n, .int .i64 t, .slice Ad d.length cd, .slice Ao o.length co, .slice Ak kids.len ck] 42)).heap.size = w.heap.size + 1 := by simp
  have WI := within_any Ak kids.len ck (w.alloc (.cells #[.int .i64 10, .int .i64 n, .int .i64 t, .slice Ad d.length cd, .slice Ao o.length co, .slice Ak kids.len ck] 42))
  rw [hsz] at WI
  have H := Lib.hid (lp32_err b 57 #[.pointer (some ⟨w.heap.size + 1, 0, none⟩)] ((w.alloc (.cells #[.int .i64 10, .int .i64 n, .int .i64 t, .slice Ad d.length cd, .slice Ao o.length co, .slice Ak kids.len ck] 42)).alloc (.cells #[.slice Ak kids.len ck] 22)) ((h.alloc _).alloc _))
  have HW := Lib.hid WI
  clear h WI hsz
  unfold itemV
  go_enter Try.func20, Try.ntmps20
  go_wp2_with fail
  refine HW.out.mono ?_
  rintro e w1 ⟨rfl, rfl⟩
  go_wp2_with fail
  refine H.out.mono ?_
  rintro e w' ⟨rfl, hk⟩
  have HQ : Hid (Only [] w w') := Lib.hid ((((Only.refl _ _).alloc _).alloc _).trans hk)
  clear hk H
  go_wp2_with fail
  go_end0
  exact ⟨rfl, HQ.out⟩

theorem nested_good11 (n t : Int) (d o : List Int) (kids : Its) (Ad : Option Addr) (cd : Nat) (Ao : Option Addr) (co : Nat) (Ak : Option Addr) (ck : Nat) (w : World) (base b N : Nat) (v : Bv) (ys cs : List Int) (ins : Bool) (B : Nat) (g : Good w base b v ys cs ins B) (hi : ItemRd w B n t d o kids Ad Ao Ak) (hl : (ys ++ cs).length + (24 + wt kids) ≤ 2000000000) (hN : (ys ++ cs).length + (24 + wt kids) ≤ N) (hk : StepsOK kids) (hok : Ok kids true) (hrg : Rng kids) (hw : wt kids ≤ 4000000) (r : Res) (hr : run kids true [] = some r) :
    Calls Try.prog 20 #[.pointer (some ⟨b, 0, none⟩), itemV 11 n t d o kids Ad cd Ao co Ak ck] w (DoneP w base b v ys ins N ((asnAll t ins r).pre cs)) := by
  have g0 := g.item (.cells #[.int .i64 11, .int .i64 n, .int .i64 t, .slice Ad d.length cd, .slice Ao o.length co, .slice Ak kids.len ck] 42)
  have g1 := (g0.grow ((Only.refl _ _).drew)).item (.cells #[.slice Ak kids.len ck] 22)
  have i1 := ((hi.alloc g.hB (.cells #[.int .i64 11, .int .i64 n, .int .i64 t, .slice Ad d.length cd, .slice Ao o.length co, .slice Ak kids.len ck] 42)).grow ((Only.refl _ _).drew) g0.hB).alloc g0.hB (.cells #[.slice Ak kids.len ck] 22)
  have hsz : (w.alloc (.cells #[.int .i64 11, .int .i64 n, .int .i64 t, .slice Ad d.length cd, .slice Ao o.length co, .slice Ak kids.len ck] 42)).heap.size = w.heap.size + 1 := by simp
  have WI := within_any Ak kids.len ck (w.alloc (.cells #[.int .i64 11, .int .i64 n, .int .i64 t, .slice Ad d.length cd, .slice Ao o.length co, .slice Ak kids.len ck] 42)).drew
  rw [show (w.alloc (.cells #[.int .i64 11, .int .i64 n, .int .i64 t, .slice Ad d.length cd, .slice Ao o.length co, .slice Ak kids.len ck] 42)).drew.heap.size = w.heap.size + 1 from hsz] at WI
  have CC := within_cont (w.heap.size + 1) kids Ak ck (((w.alloc (.cells #[.int .i64 11, .int .i64 n, .int .i64 t, .slice Ad d.length cd, .slice Ao o.length co, .slice Ak kids.len ck] 42)).drew).alloc (.cells #[.slice Ak kids.len ck] 22)) base B (LL ins b v) r (fun W ho => by
    have hnew := Var.new (w.alloc (.cells #[.int .i64 11, .int .i64 n, .int .i64 t, .slice Ad d.length cd, .slice Ao o.length co, .slice Ak kids.len ck] 42)).drew 22 (.slice Ak kids.len ck)
    rw [show (w.alloc (.cells #[.int .i64 11, .int .i64 n, .int .i64 t, .slice Ad d.length cd, .slice Ao o.length co, .slice Ak kids.len ck] 42)).drew.heap.size = w.heap.size + 1 from hsz] at hnew
    refine hnew.only ho (fun hm => ?_)
    have := g0.lt _ hm
    omega) i1.rk g.low g1.hB hk hok hrg hw hr
  have H := Lib.hid (Calls.mono (BAddASN1_gen b v t 57 #[.pointer (some ⟨w.heap.size + 1, 0, none⟩)] (ys ++ cs) r _ base (wt kids) N ins hi.rt (fun _ _ => rfl) g1.bld g1.err g1.child g1.fixed g1.ready g1.row g1.base (by omega) (by omega) (fun bs hb => by subst hb; simpa using run_le kids true true [] bs hrg hok hr) CC) (fun e w' h => DoneP.grow (DoneP.own h) ((((Only.refl _ _).alloc (.cells #[.int .i64 11, .int .i64 n, .int .i64 t, .slice Ad d.length cd, .slice Ao o.length co, .slice Ak kids.len ck] 42)).drew).alloc (.cells #[.slice Ak kids.len ck] 22))))
  have HW := Lib.hid WI
  have htw : IntKind.u8.wrap t = t := by have := hi.rt; simp [IntKind.wrap, IntKind.bits, IntKind.signed]; omega
  clear g hi hl hN g0 g1 i1 CC WI hsz hk hok hrg hw hr
  unfold itemV
  go_enter Try.func20, Try.ntmps20
  go_wp2_with fail
  go_region_with (first | (go_at_call 36; refine HW.out.mono ?_; rintro e w1 ⟨rfl, rfl⟩) | (go_at_call 40; refine H.out.mono ?_; intro e w' hd; rcases hd.pan_or with rfl | ⟨T, u, rfl⟩; rotate_left; exact ⟨rfl, hd⟩; have HQ := Lib.hid hd; clear hd))
  all_goals
    go_wp2_with fail
    go_end0
    exact HQ.out

theorem nested_err11 (n t : Int) (d o : List Int) (kids : Its) (Ad : Option Addr) (cd : Nat) (Ao : Option Addr) (co : Nat) (Ak : Option Addr) (ck : Nat) (w : World) (b B : Nat) (h : Erred w b) (hi : ItemRd w B n t d o kids Ad Ao Ak) :
    Calls Try.prog 20 #[.pointer (some ⟨b, 0, none⟩), itemV 11 n t d o kids Ad cd Ao co Ak ck] w (Idle w) := by
  have hsz : (w.alloc (.cells #[.int .i64 11, .int .i64 n, .int .i64 t, .slice Ad d.length cd, .slice Ao o.length co, .slice Ak kids.len ck] 42)).heap.size = w.heap.size + 1 := by simp
  have WI := within_any Ak kids.len ck (w.alloc (.cells #[.int .i64 11, .int .i64 n, .int .i64 t, .slice Ad d.length cd, .slice Ao o.length co, .slice Ak kids.len ck] 42)).drew
  rw [show (w.alloc (.cells #[.int .i64 11, .int .i64 n, .int .i64 t, .slice Ad d.length cd, .slice Ao o.length co, .slice Ak kids.len ck] 42)).drew.heap.size = w.heap.size + 1 from hsz] at WI
  have H := Lib.hid (asn1_err b t 57 #[.pointer (some ⟨w.heap.size + 1, 0, none⟩)] (((w.alloc (.cells #[.int .i64 11, .int .i64 n, .int .i64 t, .slice Ad d.length cd, .slice Ao o.length co, .slice Ak kids.len ck] 42)).drew).alloc (.cells #[.slice Ak kids.len ck] 22)) ((h.alloc _).alloc _))
  have HW := Lib.hid WI
  have htw : IntKind.u8.wrap t = t := by have := hi.rt; simp [IntKind.wrap, IntKind.bits, IntKind.signed]; omega
  clear h hi WI hsz
  unfold itemV
  go_enter Try.func20, Try.ntmps20
  go_wp2_with fail
  go_region_with (first | (go_at_call 36; refine HW.out.mono ?_; rintro e w1 ⟨rfl, rfl⟩) | (go_at_call 40; refine H.out.mono ?_; rintro e w' ⟨rfl, hk⟩; have HQ : Hid (Only [] w w') := Lib.hid ((((Only.refl _ _).alloc _).drew.alloc _).trans hk); clear hk))
  all_goals
    go_wp2_with fail
    go_end0
    exact ⟨rfl, HQ.out⟩

end Go.Proofs.Ytndnglpehghmeaa
