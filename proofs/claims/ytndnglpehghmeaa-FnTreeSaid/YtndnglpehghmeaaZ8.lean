/- Steps that set an error, take bytes back, panic, or add a value: contracts. One step: contracts over the kinds. The loop over steps. Building by steps: contracts. -/
import Derived.Test.YtndnglpehghmeaaZ7
/-! ### Steps that set an error, take bytes back, panic, or add a value: contracts. -/
namespace Go.Proofs.Ytndnglpehghmeaa
open Go.RowKit

theorem Idle.toE {w w' : World} {b : Nat} {e : Ending} (h : Idle w e w') (hb : Erred w b) : ErrP w b .err e w' := ⟨h.2.more (by simp), hb.only h.2, h.1⟩
theorem Erred.set0 {w : World} {b : Nat} (h : Erred w b) (T : TypeId) (u : Value) : Erred (w.setCell ⟨b, 0, none⟩ (.iface T u)) b := by
  obtain ⟨v, T', u', h1, h2, h3⟩ := h
  exact ⟨_, T, u, h1.set0 _, rfl, h3⟩
theorem Good.erred {w : World} {base b : Nat} {v : Bv} {ys cs : List Int} {ins : Bool} {B : Nat} (g : Good w base b v ys cs ins B) (T : TypeId) (u : Value) : Erred (w.setCell ⟨b, 0, none⟩ (.iface T u)) b := ⟨_, T, u, g.bld.set0 _, rfl, g.child⟩

theorem other_good21 (n t : Int) (d o : List Int) (kids : Its) (Ad : Option Addr) (cd : Nat) (Ao : Option Addr) (co : Nat) (Ak : Option Addr) (ck : Nat) (w : World) (base b N : Nat) (v : Bv) (ys cs : List Int) (ins : Bool) (B : Nat) (g : Good w base b v ys cs ins B) (hi : ItemRd w B n t d o kids Ad Ao Ak) :
    Calls Try.prog 22 #[.pointer (some ⟨b, 0, none⟩), itemV 21 n t d o kids Ad cd Ao co Ak ck] w (DoneP w base b v ys ins N .err) := by
  have g0 := g.item (.cells #[.int .i64 21, .int .i64 n, .int .i64 t, .slice Ad d.length cd, .slice Ao o.length co, .slice Ak kids.len ck] 42)
  have H := Lib.hid (fun s => setError_any b v 92 (.pointer (some ⟨w.heap.size + 1, 0, none⟩)) ((w.alloc (.cells #[.int .i64 21, .int .i64 n, .int .i64 t, .slice Ad d.length cd, .slice Ao o.length co, .slice Ak kids.len ck] 42)).alloc (.cells #[.string s] 94)) (g0.item _).bld)
  have HQ : Hid (∀ s, DoneP w base b v ys ins N .err (.returned (.tuple #[])) (((w.alloc (.cells #[.int .i64 21, .int .i64 n, .int .i64 t, .slice Ad d.length cd, .slice Ao o.length co, .slice Ak kids.len ck] 42)).alloc (.cells #[.string s] 94)).setCell ⟨b, 0, none⟩ (.iface 92 (.pointer (some ⟨w.heap.size + 1, 0, none⟩))))) := Lib.hid (fun s => ⟨(((Only.refl _ _).alloc _).alloc _).setCell (.inl (by simp [LL])) _, rfl, by
    obtain ⟨v', T, u, h1, h2, h3⟩ := (g0.item (.cells #[.string s] 94)).erred 92 (.pointer (some ⟨w.heap.size + 1, 0, none⟩))
    exact ⟨T, u, v', h1, h2, h3⟩⟩)
  have hsz : (w.alloc (.cells #[.int .i64 21, .int .i64 n, .int .i64 t, .slice Ad d.length cd, .slice Ao o.length co, .slice Ak kids.len ck] 42)).heap.size = w.heap.size + 1 := by simp
  have E := Lib.hid (fun s => errorsNew_any s (w.alloc (.cells #[.int .i64 21, .int .i64 n, .int .i64 t, .slice Ad d.length cd, .slice Ao o.length co, .slice Ak kids.len ck] 42)))
  rw [hsz] at E
  obtain ⟨n0, n1⟩ := hi.rn
  clear g hi g0 hsz
  unfold itemV
  go_enter Try.func22, Try.ntmps22
  go_wp2_with fail
  refine (E.out _).mono ?_
  rintro e w' ⟨rfl, rfl⟩
  go_wp2_with fail
  refine (H.out _).mono ?_
  rintro e w' ⟨rfl, rfl⟩
  go_wp2_with fail
  go_end0
  exact HQ.out _

theorem other_err21 (n t : Int) (d o : List Int) (kids : Its) (Ad : Option Addr) (cd : Nat) (Ao : Option Addr) (co : Nat) (Ak : Option Addr) (ck : Nat) (w : World) (b B : Nat) (h : Erred w b) (hi : ItemRd w B n t d o kids Ad Ao Ak) :
    Calls Try.prog 22 #[.pointer (some ⟨b, 0, none⟩), itemV 21 n t d o kids Ad cd Ao co Ak ck] w (ErrP w b .err) := by
  have h0 := h.alloc (.cells #[.int .i64 21, .int .i64 n, .int .i64 t, .slice Ad d.length cd, .slice Ao o.length co, .slice Ak kids.len ck] 42)
  have H := Lib.hid (fun s => (show ∃ v, Calls Try.prog 50 #[.pointer (some ⟨b, 0, none⟩), .iface 92 (.pointer (some ⟨w.heap.size + 1, 0, none⟩))] ((w.alloc (.cells #[.int .i64 21, .int .i64 n, .int .i64 t, .slice Ad d.length cd, .slice Ao o.length co, .slice Ak kids.len ck] 42)).alloc (.cells #[.string s] 94)) fun e w' => (fun _ : Bv => e = .returned (.tuple #[]) ∧ w' = ((w.alloc (.cells #[.int .i64 21, .int .i64 n, .int .i64 t, .slice Ad d.length cd, .slice Ao o.length co, .slice Ak kids.len ck] 42)).alloc (.cells #[.string s] 94)).setCell ⟨b, 0, none⟩ (.iface 92 (.pointer (some ⟨w.heap.size + 1, 0, none⟩)))) v from by
    obtain ⟨v, T, u, h1, _⟩ := h0
    exact ⟨v, setError_any b v _ _ _ (h1.alloc _)⟩))
  have HQ : Hid (∀ s, ErrP w b .err (.returned (.tuple #[])) (((w.alloc (.cells #[.int .i64 21, .int .i64 n, .int .i64 t, .slice Ad d.length cd, .slice Ao o.length co, .slice Ak kids.len ck] 42)).alloc (.cells #[.string s] 94)).setCell ⟨b, 0, none⟩ (.iface 92 (.pointer (some ⟨w.heap.size + 1, 0, none⟩))))) := Lib.hid (fun s => ⟨(((Only.refl _ _).alloc _).alloc _).setCell (.inl (by simp)) _, (h0.alloc _).set0 _ _, rfl⟩)
  have hsz : (w.alloc (.cells #[.int .i64 21, .int .i64 n, .int .i64 t, .slice Ad d.length cd, .slice Ao o.length co, .slice Ak kids.len ck] 42)).heap.size = w.heap.size + 1 := by simp
  have E := Lib.hid (fun s => errorsNew_any s (w.alloc (.cells #[.int .i64 21, .int .i64 n, .int .i64 t, .slice Ad d.length cd, .slice Ao o.length co, .slice Ak kids.len ck] 42)))
  rw [hsz] at E
  obtain ⟨n0, n1⟩ := hi.rn
  clear h hi h0 hsz
  unfold itemV
  go_enter Try.func22, Try.ntmps22
  go_wp2_with fail
  refine (E.out _).mono ?_
  rintro e w' ⟨rfl, rfl⟩
  go_wp2_with fail
  obtain ⟨_, H1⟩ := H.out _
  refine H1.mono ?_
  rintro e w' ⟨rfl, rfl⟩
  go_wp2_with fail
  go_end0
  exact HQ.out _

theorem other_good22 (n t : Int) (d o : List Int) (kids : Its) (Ad : Option Addr) (cd : Nat) (Ao : Option Addr) (co : Nat) (Ak : Option Addr) (ck : Nat) (w : World) (base b N : Nat) (v : Bv) (ys cs : List Int) (ins : Bool) (B : Nat) (g : Good w base b v ys cs ins B) (hi : ItemRd w B n t d o kids Ad Ao Ak) (hl : (ys ++ cs).length ≤ 2000000000) (hn0 : 0 ≤ n) (hn1 : n ≤ cs.length) :
    Calls Try.prog 22 #[.pointer (some ⟨b, 0, none⟩), itemV 22 n t d o kids Ad cd Ao co Ak ck] w (DoneP w base b v ys ins N (.good (cs.take (cs.length - n.toNat)))) := by
  have g0 := g.item (.cells #[.int .i64 22, .int .i64 n, .int .i64 t, .slice Ad d.length cd, .slice Ao o.length co, .slice Ak kids.len ck] 42)
  obtain ⟨m, rfl⟩ := Int.eq_ofNat_of_zero_le hn0
  rw [Int.toNat_natCast]
  have H := Lib.hid (unwrite_any b v ys cs m (w.alloc (.cells #[.int .i64 22, .int .i64 (m : Int), .int .i64 t, .slice Ad d.length cd, .slice Ao o.length co, .slice Ak kids.len ck] 42)) base g0.bld g0.err g0.child g0.row g0.off (by omega) (by omega))
  have HG := Lib.hid g0
  obtain ⟨n0, n1⟩ := hi.rn
  clear g hi g0 hl hn0 hn1
  unfold itemV
  go_enter Try.func22, Try.ntmps22
  go_wp2_with fail
  refine H.out.mono ?_
  rintro e w' ⟨rfl, ho, r, h1, h2, h3⟩
  have HQ : Hid (DoneP w base b v ys ins N (.good (cs.take (cs.length - m))) (.returned (.tuple #[])) w') := Lib.hid (by
    refine DoneP.grow (w1 := w.alloc (.cells #[.int .i64 22, .int .i64 (m : Int), .int .i64 t, .slice Ad d.length cd, .slice Ao o.length co, .slice Ak kids.len ck] 42)) ?_ ((Only.refl _ _).alloc _)
    refine ⟨ho.more (by simp [LL]), rfl, r, v.inc, h1, h2, fun k hk => .inl (by rw [← h3]; exact hk), HG.out.ready.only ho ?_, fun _ => rfl, fun k hk => .inl hk⟩
    intro k hk hm
    simp only [List.mem_singleton] at hk
    subst hk
    rcases HG.out.ready with ⟨_, e⟩ | ⟨bi, e, hv⟩
    · rw [e] at hm; simp [incI] at hm
    · rw [e] at hm
      simp only [incI, List.mem_singleton] at hm
      subst hm
      have := hv.symm.trans HG.out.bld
      simp at this)
  clear ho h1 h2 h3 H
  go_wp2_with fail
  go_end0
  exact HQ.out

theorem other_err22 (n t : Int) (d o : List Int) (kids : Its) (Ad : Option Addr) (cd : Nat) (Ao : Option Addr) (co : Nat) (Ak : Option Addr) (ck : Nat) (w : World) (b B : Nat) (h : Erred w b) (hi : ItemRd w B n t d o kids Ad Ao Ak) :
    Calls Try.prog 22 #[.pointer (some ⟨b, 0, none⟩), itemV 22 n t d o kids Ad cd Ao co Ak ck] w (ErrP w b .err) := by
  have H := Lib.hid (unwrite_err b n (w.alloc (.cells #[.int .i64 22, .int .i64 n, .int .i64 t, .slice Ad d.length cd, .slice Ao o.length co, .slice Ak kids.len ck] 42)) (h.alloc _))
  have HE := Lib.hid h
  obtain ⟨n0, n1⟩ := hi.rn
  clear h hi
  unfold itemV
  go_enter Try.func22, Try.ntmps22
  go_wp2_with fail
  refine H.out.mono ?_
  rintro e w' ⟨rfl, hk⟩
  have HQ : Hid (ErrP w b .err (.returned (.tuple #[])) w') := Lib.hid (Idle.toE ⟨rfl, ((Only.refl _ _).alloc _).trans hk⟩ HE.out)
  clear hk H
  go_wp2_with fail
  go_end0
  exact HQ.out

theorem other_good23 (n t : Int) (d o : List Int) (kids : Its) (Ad : Option Addr) (cd : Nat) (Ao : Option Addr) (co : Nat) (Ak : Option Addr) (ck : Nat) (w : World) (base b N : Nat) (v : Bv) (ys cs : List Int) (ins : Bool) (B : Nat) (g : Good w base b v ys cs ins B) (hi : ItemRd w B n t d o kids Ad Ao Ak) (hins : ins = true) (hN : (ys ++ cs).length ≤ N) :
    Calls Try.prog 22 #[.pointer (some ⟨b, 0, none⟩), itemV 23 n t d o kids Ad cd Ao co Ak ck] w (DoneP w base b v ys ins N .pan) := by
  have g0 := g.item (.cells #[.int .i64 23, .int .i64 n, .int .i64 t, .slice Ad d.length cd, .slice Ao o.length co, .slice Ak kids.len ck] 42)
  have HQ : Hid (∀ s T u, DoneP w base b v ys ins N .pan (.panicked [panE T u]) ((w.alloc (.cells #[.int .i64 23, .int .i64 n, .int .i64 t, .slice Ad d.length cd, .slice Ao o.length co, .slice Ak kids.len ck] 42)).alloc (.cells #[.string s] 94))) := Lib.hid (fun s T u => ⟨((Only.refl _ _).alloc _).alloc _, hins, ⟨T, u, rfl⟩, .leaf (g0.item _).bld (Like.refl _) g.err g.child (g0.item _).row (fun k hk => .inl hk) hN⟩)
  have hsz : (w.alloc (.cells #[.int .i64 23, .int .i64 n, .int .i64 t, .slice Ad d.length cd, .slice Ao o.length co, .slice Ak kids.len ck] 42)).heap.size = w.heap.size + 1 := by simp
  have E := Lib.hid (fun s => errorsNew_any s (w.alloc (.cells #[.int .i64 23, .int .i64 n, .int .i64 t, .slice Ad d.length cd, .slice Ao o.length co, .slice Ak kids.len ck] 42)))
  rw [hsz] at E
  obtain ⟨n0, n1⟩ := hi.rn
  clear g hi g0 hsz hN hins
  unfold itemV
  go_enter Try.func22, Try.ntmps22
  go_wp2_with fail
  refine (E.out _).mono ?_
  rintro e w' ⟨rfl, rfl⟩
  go_wp2_with fail
  exact ⟨rfl, HQ.out _ _ _⟩

theorem other_err23 (n t : Int) (d o : List Int) (kids : Its) (Ad : Option Addr) (cd : Nat) (Ao : Option Addr) (co : Nat) (Ak : Option Addr) (ck : Nat) (w : World) (b B : Nat) (h : Erred w b) (hi : ItemRd w B n t d o kids Ad Ao Ak) :
    Calls Try.prog 22 #[.pointer (some ⟨b, 0, none⟩), itemV 23 n t d o kids Ad cd Ao co Ak ck] w (ErrP w b .pan) := by
  have HQ : Hid (∀ s T u, ErrP w b .pan (.panicked [panE T u]) ((w.alloc (.cells #[.int .i64 23, .int .i64 n, .int .i64 t, .slice Ad d.length cd, .slice Ao o.length co, .slice Ak kids.len ck] 42)).alloc (.cells #[.string s] 94))) := Lib.hid (fun s T u => ⟨((Only.refl _ _).alloc _).alloc _, (h.alloc _).alloc _, T, u, rfl⟩)
  have hsz : (w.alloc (.cells #[.int .i64 23, .int .i64 n, .int .i64 t, .slice Ad d.length cd, .slice Ao o.length co, .slice Ak kids.len ck] 42)).heap.size = w.heap.size + 1 := by simp
  have E := Lib.hid (fun s => errorsNew_any s (w.alloc (.cells #[.int .i64 23, .int .i64 n, .int .i64 t, .slice Ad d.length cd, .slice Ao o.length co, .slice Ak kids.len ck] 42)))
  rw [hsz] at E
  obtain ⟨n0, n1⟩ := hi.rn
  clear h hi hsz
  unfold itemV
  go_enter Try.func22, Try.ntmps22
  go_wp2_with fail
  refine (E.out _).mono ?_
  rintro e w' ⟨rfl, rfl⟩
  go_wp2_with fail
  exact ⟨rfl, HQ.out _ _ _⟩

theorem marshal_false (Ak : Option Addr) (nk ck b : Nat) (w : World) (R : Ending → World → Prop) (h : Calls Try.prog 10 #[.pointer (some ⟨b, 0, none⟩), .slice Ak nk ck] (w.alloc (.cells #[.slice Ak nk ck, .bool false] 85)) R) (hR : ∀ e w', R e w' → RetPan e ∧ w'.cell? ⟨w.heap.size, 1, none⟩ = some (.bool false)) :
    Calls Try.prog 91 #[.agg #[.slice Ak nk ck, .bool false], .pointer (some ⟨b, 0, none⟩)] w fun e w' => (∃ w1, R (.returned (.tuple #[])) w1 ∧ e = .returned .nilIface ∧ w' = w1) ∨ ((∃ T u, e = .panicked [panE T u]) ∧ R e w') := by
  have H := Lib.hid h
  have HR := Lib.hid hR
  clear h hR
  go_enter Try.func91, Try.ntmps91
  go_wp2_with fail
  refine H.out.mono ?_
  intro e w1 hr
  obtain ⟨hrp, hcb⟩ := HR.out e w1 hr
  rcases hrp with rfl | ⟨T, u, rfl⟩
  · have HQ := Lib.hid hr
    clear hr H HR
    go_wp2_with fail
    go_ret
    exact .inl ⟨w1, HQ.out, rfl, rfl⟩
  · exact ⟨rfl, .inr ⟨⟨T, u, rfl⟩, hr⟩⟩

theorem marshal_true (Ak : Option Addr) (nk ck b : Nat) (w : World) (R : Ending → World → Prop) (h : Calls Try.prog 10 #[.pointer (some ⟨b, 0, none⟩), .slice Ak nk ck] (w.alloc (.cells #[.slice Ak nk ck, .bool true] 85)) R) (hR : ∀ e w', R e w' → RetPan e ∧ w'.cell? ⟨w.heap.size, 1, none⟩ = some (.bool true)) :
    Calls Try.prog 91 #[.agg #[.slice Ak nk ck, .bool true], .pointer (some ⟨b, 0, none⟩)] w fun e w' => (∃ w1, R (.returned (.tuple #[])) w1 ∧ ∃ s, e = .returned (.iface 92 (.pointer (some ⟨w1.heap.size, 0, none⟩))) ∧ w' = w1.alloc (.cells #[.string s] 94)) ∨ ((∃ T u, e = .panicked [panE T u]) ∧ R e w') := by
  have H := Lib.hid h
  have HR := Lib.hid hR
  clear h hR
  go_enter Try.func91, Try.ntmps91
  go_wp2_with fail
  refine H.out.mono ?_
  intro e w1 hr
  obtain ⟨hrp, hcb⟩ := HR.out e w1 hr
  rcases hrp with rfl | ⟨T, u, rfl⟩
  · have HQ := Lib.hid hr
    clear hr H HR
    go_wp2_with fail
    refine (errorsNew_any _ _).mono ?_
    rintro e w' ⟨rfl, rfl⟩
    go_wp2_with fail
    go_ret
    exact .inl ⟨w1, HQ.out, _, rfl, rfl⟩
  · exact ⟨rfl, .inr ⟨⟨T, u, rfl⟩, hr⟩⟩

set_option maxRecDepth 100000 in
theorem addValue_false (Ak : Option Addr) (nk ck b : Nat) (w : World) (R : Ending → World → Prop) (h : Calls Try.prog 10 #[.pointer (some ⟨b, 0, none⟩), .slice Ak nk ck] (w.alloc (.cells #[.slice Ak nk ck, .bool false] 85)) R) (hR : ∀ e w', R e w' → (RetPan e ∧ w'.cell? ⟨w.heap.size, 1, none⟩ = some (.bool false)) ∧ ∃ v', Bld w' b v') :
    Calls Try.prog 53 #[.pointer (some ⟨b, 0, none⟩), .iface 85 (.agg #[.slice Ak nk ck, .bool false])] w fun e w' => (R e w' ∧ e = .returned (.tuple #[])) ∨ ((∃ T u, e = .panicked [panE T u]) ∧ R e w') := by
  have H := Lib.hid (marshal_false Ak nk ck b w R h (fun e w' hr => (hR e w' hr).1))
  have HR := Lib.hid hR
  clear h hR
  go_enter Try.func53, Try.ntmps53
  go_wp2_with fail
  refine H.out.mono ?_
  rintro e w' (⟨w1, hr, rfl, rfl⟩ | ⟨⟨T, u, rfl⟩, hr⟩)
  · have HQ := Lib.hid hr
    clear hr H HR
    go_wp2_with fail
    go_end0
    exact .inl ⟨HQ.out, rfl⟩
  · exact ⟨rfl, .inr ⟨⟨T, u, rfl⟩, hr⟩⟩

set_option maxRecDepth 100000 in
theorem addValue_true (Ak : Option Addr) (nk ck b : Nat) (w : World) (R : Ending → World → Prop) (h : Calls Try.prog 10 #[.pointer (some ⟨b, 0, none⟩), .slice Ak nk ck] (w.alloc (.cells #[.slice Ak nk ck, .bool true] 85)) R) (hR : ∀ e w', R e w' → (RetPan e ∧ w'.cell? ⟨w.heap.size, 1, none⟩ = some (.bool true)) ∧ ∃ v', Bld w' b v') :
    Calls Try.prog 53 #[.pointer (some ⟨b, 0, none⟩), .iface 85 (.agg #[.slice Ak nk ck, .bool true])] w fun e w' => (∃ w1 s, R (.returned (.tuple #[])) w1 ∧ e = .returned (.tuple #[]) ∧ w' = (w1.setCell ⟨b, 0, none⟩ (.iface 92 (.pointer (some ⟨w1.heap.size, 0, none⟩)))).alloc (.cells #[.string s] 94)) ∨ ((∃ T u, e = .panicked [panE T u]) ∧ R e w') := by
  have H := Lib.hid (marshal_true Ak nk ck b w R h (fun e w' hr => (hR e w' hr).1))
  have HR := Lib.hid hR
  clear h hR
  go_enter Try.func53, Try.ntmps53
  go_wp2_with fail
  refine H.out.mono ?_
  rintro e w' (⟨w1, hr, s, rfl, rfl⟩ | ⟨⟨T, u, rfl⟩, hr⟩)
  · obtain ⟨_, v', hb⟩ := HR.out _ _ hr
    have hb2 := hb.alloc (.cells #[.string s] 94)
    have h0 := hb.c0
    have hf := hb.free 0
    have hlt := hb.lt
    have HQ := Lib.hid hr
    clear hr H HR hb hb2
    go_wp2_with fail
    go_end0
    exact .inl ⟨w1, s, HQ.out, rfl, rfl⟩
  · exact ⟨rfl, .inr ⟨⟨T, u, rfl⟩, hr⟩⟩

/-- A value that tells an error. -/
def valBad (r : Res) : Res := match r with
  | .pan => .pan
  | _ => .err
theorem other_good24 (n t : Int) (d o : List Int) (kids : Its) (Ad : Option Addr) (cd : Nat) (Ao : Option Addr) (co : Nat) (Ak : Option Addr) (ck : Nat) (w : World) (base b N : Nat) (v : Bv) (ys cs : List Int) (ins : Bool) (B : Nat) (g : Good w base b v ys cs ins B) (hi : ItemRd w B n t d o kids Ad Ao Ak) (hl : (ys ++ cs).length + (24 + wt kids) ≤ 2000000000) (hN : (ys ++ cs).length + (24 + wt kids) ≤ N) (hk : StepsOK kids) (hok : Ok kids ins) (hrg : Rng kids) (hw : wt kids ≤ 4000000) (r : Res) (hr : run kids ins cs = some r) :
    Calls Try.prog 22 #[.pointer (some ⟨b, 0, none⟩), itemV 24 n t d o kids Ad cd Ao co Ak ck] w (DoneP w base b v ys ins N (r)) := by
  have g0 := g.item (.cells #[.int .i64 24, .int .i64 n, .int .i64 t, .slice Ad d.length cd, .slice Ao o.length co, .slice Ak kids.len ck] 42)
  have g1 := g0.item (.cells #[.slice Ak kids.len ck, .bool false] 85)
  have i1 := (hi.alloc g.hB (.cells #[.int .i64 24, .int .i64 n, .int .i64 t, .slice Ad d.length cd, .slice Ao o.length co, .slice Ak kids.len ck] 42)).alloc g0.hB (.cells #[.slice Ak kids.len ck, .bool false] 85)
  have hsz : (w.alloc (.cells #[.int .i64 24, .int .i64 n, .int .i64 t, .slice Ad d.length cd, .slice Ao o.length co, .slice Ak kids.len ck] 42)).heap.size = w.heap.size + 1 := by simp
  have ST := hk ins b v ys cs ((w.alloc (.cells #[.int .i64 24, .int .i64 n, .int .i64 t, .slice Ad d.length cd, .slice Ao o.length co, .slice Ak kids.len ck] 42)).alloc (.cells #[.slice Ak kids.len ck, .bool false] 85)) base B Ak kids.len ck N r g1 i1.rk rfl hok hrg hr (by omega) hw (by omega)
  have hnew : ((w.alloc (.cells #[.int .i64 24, .int .i64 n, .int .i64 t, .slice Ad d.length cd, .slice Ao o.length co, .slice Ak kids.len ck] 42)).alloc (.cells #[.slice Ak kids.len ck, .bool false] 85)).heap[(w.alloc (.cells #[.int .i64 24, .int .i64 n, .int .i64 t, .slice Ad d.length cd, .slice Ao o.length co, .slice Ak kids.len ck] 42)).heap.size]? = some (.cells #[.slice Ak kids.len ck, .bool false] 85 (0, 0)) := heap_alloc_new (w.alloc (.cells #[.int .i64 24, .int .i64 n, .int .i64 t, .slice Ad d.length cd, .slice Ao o.length co, .slice Ak kids.len ck] 42)) _
  have HR : Hid (∀ e w', DoneP ((w.alloc (.cells #[.int .i64 24, .int .i64 n, .int .i64 t, .slice Ad d.length cd, .slice Ao o.length co, .slice Ak kids.len ck] 42)).alloc (.cells #[.slice Ak kids.len ck, .bool false] 85)) base b v ys ins N r e w' → (RetPan e ∧ w'.cell? ⟨(w.alloc (.cells #[.int .i64 24, .int .i64 n, .int .i64 t, .slice Ad d.length cd, .slice Ao o.length co, .slice Ak kids.len ck] 42)).heap.size, 1, none⟩ = some (.bool false)) ∧ ∃ v', Bld w' b v') := Lib.hid (fun e w' h => ⟨⟨h.pan_or, by
    have hblk := h.1.block (w.alloc (.cells #[.int .i64 24, .int .i64 n, .int .i64 t, .slice Ad d.length cd, .slice Ao o.length co, .slice Ak kids.len ck] 42)).heap.size (lt_of_block hnew) (fun hm => by have := g0.lt _ hm; omega)
    exact cell_of_row w' _ 1 _ _ _ (hblk.trans hnew)⟩, by
    cases r with
    | good cs' => obtain ⟨_, _, r', i', h1, _⟩ := h; exact ⟨_, h1⟩
    | err => obtain ⟨_, _, T, u, v', h1, _⟩ := h; exact ⟨_, h1⟩
    | pan => obtain ⟨_, _, _, hp⟩ := h; cases hp with
      | err h1 _ _ => exact ⟨_, h1⟩
      | leaf h1 _ _ _ _ _ _ => exact ⟨_, h1⟩
      | node h1 _ _ _ _ _ _ _ _ _ => exact ⟨_, h1⟩⟩)
  have H := Lib.hid (addValue_false Ak kids.len ck b (w.alloc (.cells #[.int .i64 24, .int .i64 n, .int .i64 t, .slice Ad d.length cd, .slice Ao o.length co, .slice Ak kids.len ck] 42)) _ ST HR.out)
  have HFIN : Hid (∀ e w', (DoneP ((w.alloc (.cells #[.int .i64 24, .int .i64 n, .int .i64 t, .slice Ad d.length cd, .slice Ao o.length co, .slice Ak kids.len ck] 42)).alloc (.cells #[.slice Ak kids.len ck, .bool false] 85)) base b v ys ins N r e w' ∧ e = .returned (.tuple #[])) → DoneP w base b v ys ins N (r) e w') := Lib.hid (fun e w' h => h.1.grow (((Only.refl _ _).alloc _).alloc _))
  have HPAN : Hid (∀ e w', (∃ T u, e = .panicked [panE T u]) → DoneP ((w.alloc (.cells #[.int .i64 24, .int .i64 n, .int .i64 t, .slice Ad d.length cd, .slice Ao o.length co, .slice Ak kids.len ck] 42)).alloc (.cells #[.slice Ak kids.len ck, .bool false] 85)) base b v ys ins N r e w' → DoneP w base b v ys ins N (r) e w') := Lib.hid (fun e w' he h => by
    obtain ⟨T, u, rfl⟩ := he
    cases r with
    | good cs' => obtain ⟨_, h1, _⟩ := h; cases h1
    | err => obtain ⟨_, h1, _⟩ := h; cases h1
    | pan => exact h.grow (((Only.refl _ _).alloc _).alloc _))
  obtain ⟨n0, n1⟩ := hi.rn
  clear g hi hl hN g0 g1 i1 ST HR hsz hk hok hrg hw hr hnew
  unfold itemV
  go_enter Try.func22, Try.ntmps22
  go_wp2_with fail
  refine H.out.mono ?_
  rintro e w' (hh | ⟨⟨T, u, rfl⟩, hh⟩)
  · have HQ := Lib.hid (HFIN.out e w' hh)
    obtain rfl : e = .returned (.tuple #[]) := by exact hh.2
    clear hh H
    go_wp2_with fail
    go_end0
    exact HQ.out
  · exact ⟨rfl, HPAN.out _ _ ⟨T, u, rfl⟩ hh⟩

theorem other_err24 (n t : Int) (d o : List Int) (kids : Its) (Ad : Option Addr) (cd : Nat) (Ao : Option Addr) (co : Nat) (Ak : Option Addr) (ck : Nat) (w : World) (b B : Nat) (h : Erred w b) (hi : ItemRd w B n t d o kids Ad Ao Ak) (hB : B ≤ w.heap.size) (hBb : B ≤ b) (ins : Bool) (hk : StepsErr kids) (hok : Ok kids ins) (hrg : Rng kids) (hw : wt kids ≤ 4000000) :
    Calls Try.prog 22 #[.pointer (some ⟨b, 0, none⟩), itemV 24 n t d o kids Ad cd Ao co Ak ck] w (ErrP w b (valBad (runE kids))) := by
  have h0 := h.alloc (.cells #[.int .i64 24, .int .i64 n, .int .i64 t, .slice Ad d.length cd, .slice Ao o.length co, .slice Ak kids.len ck] 42)
  have h1 := h0.alloc (.cells #[.slice Ak kids.len ck, .bool false] 85)
  have hB0 : B ≤ (w.alloc (.cells #[.int .i64 24, .int .i64 n, .int .i64 t, .slice Ad d.length cd, .slice Ao o.length co, .slice Ak kids.len ck] 42)).heap.size := by simp; omega
  have i1 := (hi.alloc hB (.cells #[.int .i64 24, .int .i64 n, .int .i64 t, .slice Ad d.length cd, .slice Ao o.length co, .slice Ak kids.len ck] 42)).alloc hB0 (.cells #[.slice Ak kids.len ck, .bool false] 85)
  have ST := hk ins b ((w.alloc (.cells #[.int .i64 24, .int .i64 n, .int .i64 t, .slice Ad d.length cd, .slice Ao o.length co, .slice Ak kids.len ck] 42)).alloc (.cells #[.slice Ak kids.len ck, .bool false] 85)) B Ak kids.len ck h1 i1.rk rfl hok hrg (by simp; omega) hBb hw
  have hnew : ((w.alloc (.cells #[.int .i64 24, .int .i64 n, .int .i64 t, .slice Ad d.length cd, .slice Ao o.length co, .slice Ak kids.len ck] 42)).alloc (.cells #[.slice Ak kids.len ck, .bool false] 85)).heap[(w.alloc (.cells #[.int .i64 24, .int .i64 n, .int .i64 t, .slice Ad d.length cd, .slice Ao o.length co, .slice Ak kids.len ck] 42)).heap.size]? = some (.cells #[.slice Ak kids.len ck, .bool false] 85 (0, 0)) := heap_alloc_new (w.alloc (.cells #[.int .i64 24, .int .i64 n, .int .i64 t, .slice Ad d.length cd, .slice Ao o.length co, .slice Ak kids.len ck] 42)) _
  have hblt : b < (w.alloc (.cells #[.int .i64 24, .int .i64 n, .int .i64 t, .slice Ad d.length cd, .slice Ao o.length co, .slice Ak kids.len ck] 42)).heap.size := by obtain ⟨v, T, u, hb, _⟩ := h0; exact hb.lt
  have HR : Hid (∀ e w', ErrP ((w.alloc (.cells #[.int .i64 24, .int .i64 n, .int .i64 t, .slice Ad d.length cd, .slice Ao o.length co, .slice Ak kids.len ck] 42)).alloc (.cells #[.slice Ak kids.len ck, .bool false] 85)) b (runE kids) e w' → (RetPan e ∧ w'.cell? ⟨(w.alloc (.cells #[.int .i64 24, .int .i64 n, .int .i64 t, .slice Ad d.length cd, .slice Ao o.length co, .slice Ak kids.len ck] 42)).heap.size, 1, none⟩ = some (.bool false)) ∧ ∃ v', Bld w' b v') := Lib.hid (fun e w' h => ⟨⟨by
    obtain ⟨_, _, hm⟩ := h
    rcases runE_two kids with e1 | e1
    · rw [e1] at hm; exact .inl hm
    · rw [e1] at hm; exact .inr hm, by
    have hblk := h.1.block (w.alloc (.cells #[.int .i64 24, .int .i64 n, .int .i64 t, .slice Ad d.length cd, .slice Ao o.length co, .slice Ak kids.len ck] 42)).heap.size (lt_of_block hnew) (fun hm => by rw [List.mem_singleton] at hm; omega)
    exact cell_of_row w' _ 1 _ _ _ (hblk.trans hnew)⟩, by
    obtain ⟨_, ⟨v', T, u, hb, _⟩, _⟩ := h
    exact ⟨_, hb⟩⟩)
  have H := Lib.hid (addValue_false Ak kids.len ck b (w.alloc (.cells #[.int .i64 24, .int .i64 n, .int .i64 t, .slice Ad d.length cd, .slice Ao o.length co, .slice Ak kids.len ck] 42)) _ ST HR.out)
  have HFIN : Hid (∀ e w', (ErrP ((w.alloc (.cells #[.int .i64 24, .int .i64 n, .int .i64 t, .slice Ad d.length cd, .slice Ao o.length co, .slice Ak kids.len ck] 42)).alloc (.cells #[.slice Ak kids.len ck, .bool false] 85)) b (runE kids) e w' ∧ e = .returned (.tuple #[])) → ErrP w b (valBad (runE kids)) e w') := Lib.hid (fun e w' h => by
    obtain ⟨h, rfl⟩ := h
    rcases runE_two kids with e1 | e1
    · rw [e1] at h ⊢
      exact ⟨((((Only.refl _ _).alloc _).alloc _).then h.1 (fun k hk _ => hk)), h.2.1, rfl⟩
    · rw [e1] at h; obtain ⟨_, _, T, u, h1⟩ := h; cases h1)
  have HPAN : Hid (∀ e w', (∃ T u, e = .panicked [panE T u]) → ErrP ((w.alloc (.cells #[.int .i64 24, .int .i64 n, .int .i64 t, .slice Ad d.length cd, .slice Ao o.length co, .slice Ak kids.len ck] 42)).alloc (.cells #[.slice Ak kids.len ck, .bool false] 85)) b (runE kids) e w' → ErrP w b (valBad (runE kids)) e w') := Lib.hid (fun e w' he h => by
    obtain ⟨T, u, rfl⟩ := he
    rcases runE_two kids with e1 | e1
    · rw [e1] at h; obtain ⟨_, _, h1⟩ := h; cases h1
    · rw [e1] at h ⊢
      exact ⟨((((Only.refl _ _).alloc _).alloc _).then h.1 (fun k hk _ => hk)), h.2.1, T, u, rfl⟩)
  obtain ⟨n0, n1⟩ := hi.rn
  clear h hi hB hBb h0 h1 hB0 i1 ST HR hk hok hrg hw hnew hblt
  unfold itemV
  go_enter Try.func22, Try.ntmps22
  go_wp2_with fail
  refine H.out.mono ?_
  rintro e w' (hh | ⟨⟨T, u, rfl⟩, hh⟩)
  · have HQ := Lib.hid (HFIN.out e w' hh)
    obtain rfl : e = .returned (.tuple #[]) := by exact hh.2
    clear hh H
    go_wp2_with fail
    go_end0
    exact HQ.out
  · exact ⟨rfl, HPAN.out _ _ ⟨T, u, rfl⟩ hh⟩

theorem other_good25 (n t : Int) (d o : List Int) (kids : Its) (Ad : Option Addr) (cd : Nat) (Ao : Option Addr) (co : Nat) (Ak : Option Addr) (ck : Nat) (w : World) (base b N : Nat) (v : Bv) (ys cs : List Int) (ins : Bool) (B : Nat) (g : Good w base b v ys cs ins B) (hi : ItemRd w B n t d o kids Ad Ao Ak) (hl : (ys ++ cs).length + (24 + wt kids) ≤ 2000000000) (hN : (ys ++ cs).length + (24 + wt kids) ≤ N) (hk : StepsOK kids) (hok : Ok kids ins) (hrg : Rng kids) (hw : wt kids ≤ 4000000) (r : Res) (hr : run kids ins cs = some r) :
    Calls Try.prog 22 #[.pointer (some ⟨b, 0, none⟩), itemV 25 n t d o kids Ad cd Ao co Ak ck] w (DoneP w base b v ys ins N (valBad r)) := by
  have g0 := g.item (.cells #[.int .i64 25, .int .i64 n, .int .i64 t, .slice Ad d.length cd, .slice Ao o.length co, .slice Ak kids.len ck] 42)
  have g1 := g0.item (.cells #[.slice Ak kids.len ck, .bool true] 85)
  have i1 := (hi.alloc g.hB (.cells #[.int .i64 25, .int .i64 n, .int .i64 t, .slice Ad d.length cd, .slice Ao o.length co, .slice Ak kids.len ck] 42)).alloc g0.hB (.cells #[.slice Ak kids.len ck, .bool true] 85)
  have hsz : (w.alloc (.cells #[.int .i64 25, .int .i64 n, .int .i64 t, .slice Ad d.length cd, .slice Ao o.length co, .slice Ak kids.len ck] 42)).heap.size = w.heap.size + 1 := by simp
  have ST := hk ins b v ys cs ((w.alloc (.cells #[.int .i64 25, .int .i64 n, .int .i64 t, .slice Ad d.length cd, .slice Ao o.length co, .slice Ak kids.len ck] 42)).alloc (.cells #[.slice Ak kids.len ck, .bool true] 85)) base B Ak kids.len ck N r g1 i1.rk rfl hok hrg hr (by omega) hw (by omega)
  have hnew : ((w.alloc (.cells #[.int .i64 25, .int .i64 n, .int .i64 t, .slice Ad d.length cd, .slice Ao o.length co, .slice Ak kids.len ck] 42)).alloc (.cells #[.slice Ak kids.len ck, .bool true] 85)).heap[(w.alloc (.cells #[.int .i64 25, .int .i64 n, .int .i64 t, .slice Ad d.length cd, .slice Ao o.length co, .slice Ak kids.len ck] 42)).heap.size]? = some (.cells #[.slice Ak kids.len ck, .bool true] 85 (0, 0)) := heap_alloc_new (w.alloc (.cells #[.int .i64 25, .int .i64 n, .int .i64 t, .slice Ad d.length cd, .slice Ao o.length co, .slice Ak kids.len ck] 42)) _
  have HR : Hid (∀ e w', DoneP ((w.alloc (.cells #[.int .i64 25, .int .i64 n, .int .i64 t, .slice Ad d.length cd, .slice Ao o.length co, .slice Ak kids.len ck] 42)).alloc (.cells #[.slice Ak kids.len ck, .bool true] 85)) base b v ys ins N r e w' → (RetPan e ∧ w'.cell? ⟨(w.alloc (.cells #[.int .i64 25, .int .i64 n, .int .i64 t, .slice Ad d.length cd, .slice Ao o.length co, .slice Ak kids.len ck] 42)).heap.size, 1, none⟩ = some (.bool true)) ∧ ∃ v', Bld w' b v') := Lib.hid (fun e w' h => ⟨⟨h.pan_or, by
    have hblk := h.1.block (w.alloc (.cells #[.int .i64 25, .int .i64 n, .int .i64 t, .slice Ad d.length cd, .slice Ao o.length co, .slice Ak kids.len ck] 42)).heap.size (lt_of_block hnew) (fun hm => by have := g0.lt _ hm; omega)
    exact cell_of_row w' _ 1 _ _ _ (hblk.trans hnew)⟩, by
    cases r with
    | good cs' => obtain ⟨_, _, r', i', h1, _⟩ := h; exact ⟨_, h1⟩
    | err => obtain ⟨_, _, T, u, v', h1, _⟩ := h; exact ⟨_, h1⟩
    | pan => obtain ⟨_, _, _, hp⟩ := h; cases hp with
      | err h1 _ _ => exact ⟨_, h1⟩
      | leaf h1 _ _ _ _ _ _ => exact ⟨_, h1⟩
      | node h1 _ _ _ _ _ _ _ _ _ => exact ⟨_, h1⟩⟩)
  have H := Lib.hid (addValue_true Ak kids.len ck b (w.alloc (.cells #[.int .i64 25, .int .i64 n, .int .i64 t, .slice Ad d.length cd, .slice Ao o.length co, .slice Ak kids.len ck] 42)) _ ST HR.out)
  have HFIN : Hid (∀ e w', (∃ w1 s, DoneP ((w.alloc (.cells #[.int .i64 25, .int .i64 n, .int .i64 t, .slice Ad d.length cd, .slice Ao o.length co, .slice Ak kids.len ck] 42)).alloc (.cells #[.slice Ak kids.len ck, .bool true] 85)) base b v ys ins N r (.returned (.tuple #[])) w1 ∧ e = .returned (.tuple #[]) ∧ w' = (w1.setCell ⟨b, 0, none⟩ (.iface 92 (.pointer (some ⟨w1.heap.size, 0, none⟩)))).alloc (.cells #[.string s] 94)) → DoneP w base b v ys ins N (valBad r) e w') := Lib.hid (fun e w' h => by
    obtain ⟨w1, s, h, rfl, rfl⟩ := h
    have hb : ∃ v', Bld w1 b v' ∧ v'.child = .pointer none := by
      cases r with
      | good cs' => obtain ⟨_, _, r', i', h1, _⟩ := h; exact ⟨_, h1, g.child⟩
      | err => obtain ⟨_, _, T, u, v', h1, _, h3⟩ := h; exact ⟨_, h1, h3⟩
      | pan => obtain ⟨_, _, ⟨T, u, h1⟩, _⟩ := h; cases h1
    obtain ⟨v', hb1, hc1⟩ := hb
    have hres : valBad r = .err := by
      cases r with
      | good cs' => rfl
      | err => rfl
      | pan => obtain ⟨_, _, ⟨T, u, h1⟩, _⟩ := h; cases h1
    rw [hres]
    refine DoneP.grow ?_ (((Only.refl _ _).alloc (.cells #[.int .i64 25, .int .i64 n, .int .i64 t, .slice Ad d.length cd, .slice Ao o.length co, .slice Ak kids.len ck] 42)).alloc (.cells #[.slice Ak kids.len ck, .bool true] 85))
    exact ⟨(h.1.setCell (.inl (by simp [LL])) _).alloc _, rfl, _, _, _, (hb1.set0 _).alloc _, rfl, hc1⟩)
  have HPAN : Hid (∀ e w', (∃ T u, e = .panicked [panE T u]) → DoneP ((w.alloc (.cells #[.int .i64 25, .int .i64 n, .int .i64 t, .slice Ad d.length cd, .slice Ao o.length co, .slice Ak kids.len ck] 42)).alloc (.cells #[.slice Ak kids.len ck, .bool true] 85)) base b v ys ins N r e w' → DoneP w base b v ys ins N (valBad r) e w') := Lib.hid (fun e w' he h => by
    obtain ⟨T, u, rfl⟩ := he
    cases r with
    | good cs' => obtain ⟨_, h1, _⟩ := h; cases h1
    | err => obtain ⟨_, h1, _⟩ := h; cases h1
    | pan => exact h.grow (((Only.refl _ _).alloc _).alloc _))
  obtain ⟨n0, n1⟩ := hi.rn
  clear g hi hl hN g0 g1 i1 ST HR hsz hk hok hrg hw hr hnew
  unfold itemV
  go_enter Try.func22, Try.ntmps22
  go_wp2_with fail
  refine H.out.mono ?_
  rintro e w' (hh | ⟨⟨T, u, rfl⟩, hh⟩)
  · have HQ := Lib.hid (HFIN.out e w' hh)
    obtain rfl : e = .returned (.tuple #[]) := by obtain ⟨_, _, _, h, _⟩ := hh; exact h
    clear hh H
    go_wp2_with fail
    go_end0
    exact HQ.out
  · exact ⟨rfl, HPAN.out _ _ ⟨T, u, rfl⟩ hh⟩

theorem other_err25 (n t : Int) (d o : List Int) (kids : Its) (Ad : Option Addr) (cd : Nat) (Ao : Option Addr) (co : Nat) (Ak : Option Addr) (ck : Nat) (w : World) (b B : Nat) (h : Erred w b) (hi : ItemRd w B n t d o kids Ad Ao Ak) (hB : B ≤ w.heap.size) (hBb : B ≤ b) (ins : Bool) (hk : StepsErr kids) (hok : Ok kids ins) (hrg : Rng kids) (hw : wt kids ≤ 4000000) :
    Calls Try.prog 22 #[.pointer (some ⟨b, 0, none⟩), itemV 25 n t d o kids Ad cd Ao co Ak ck] w (ErrP w b (valBad (runE kids))) := by
  have h0 := h.alloc (.cells #[.int .i64 25, .int .i64 n, .int .i64 t, .slice Ad d.length cd, .slice Ao o.length co, .slice Ak kids.len ck] 42)
  have h1 := h0.alloc (.cells #[.slice Ak kids.len ck, .bool true] 85)
  have hB0 : B ≤ (w.alloc (.cells #[.int .i64 25, .int .i64 n, .int .i64 t, .slice Ad d.length cd, .slice Ao o.length co, .slice Ak kids.len ck] 42)).heap.size := by simp; omega
  have i1 := (hi.alloc hB (.cells #[.int .i64 25, .int .i64 n, .int .i64 t, .slice Ad d.length cd, .slice Ao o.length co, .slice Ak kids.len ck] 42)).alloc hB0 (.cells #[.slice Ak kids.len ck, .bool true] 85)
  have ST := hk ins b ((w.alloc (.cells #[.int .i64 25, .int .i64 n, .int .i64 t, .slice Ad d.length cd, .slice Ao o.length co, .slice Ak kids.len ck] 42)).alloc (.cells #[.slice Ak kids.len ck, .bool true] 85)) B Ak kids.len ck h1 i1.rk rfl hok hrg (by simp; omega) hBb hw
  have hnew : ((w.alloc (.cells #[.int .i64 25, .int .i64 n, .int .i64 t, .slice Ad d.length cd, .slice Ao o.length co, .slice Ak kids.len ck] 42)).alloc (.cells #[.slice Ak kids.len ck, .bool true] 85)).heap[(w.alloc (.cells #[.int .i64 25, .int .i64 n, .int .i64 t, .slice Ad d.length cd, .slice Ao o.length co, .slice Ak kids.len ck] 42)).heap.size]? = some (.cells #[.slice Ak kids.len ck, .bool true] 85 (0, 0)) := heap_alloc_new (w.alloc (.cells #[.int .i64 25, .int .i64 n, .int .i64 t, .slice Ad d.length cd, .slice Ao o.length co, .slice Ak kids.len ck] 42)) _
  have hblt : b < (w.alloc (.cells #[.int .i64 25, .int .i64 n, .int .i64 t, .slice Ad d.length cd, .slice Ao o.length co, .slice Ak kids.len ck] 42)).heap.size := by obtain ⟨v, T, u, hb, _⟩ := h0; exact hb.lt
  have HR : Hid (∀ e w', ErrP ((w.alloc (.cells #[.int .i64 25, .int .i64 n, .int .i64 t, .slice Ad d.length cd, .slice Ao o.length co, .slice Ak kids.len ck] 42)).alloc (.cells #[.slice Ak kids.len ck, .bool true] 85)) b (runE kids) e w' → (RetPan e ∧ w'.cell? ⟨(w.alloc (.cells #[.int .i64 25, .int .i64 n, .int .i64 t, .slice Ad d.length cd, .slice Ao o.length co, .slice Ak kids.len ck] 42)).heap.size, 1, none⟩ = some (.bool true)) ∧ ∃ v', Bld w' b v') := Lib.hid (fun e w' h => ⟨⟨by
    obtain ⟨_, _, hm⟩ := h
    rcases runE_two kids with e1 | e1
    · rw [e1] at hm; exact .inl hm
    · rw [e1] at hm; exact .inr hm, by
    have hblk := h.1.block (w.alloc (.cells #[.int .i64 25, .int .i64 n, .int .i64 t, .slice Ad d.length cd, .slice Ao o.length co, .slice Ak kids.len ck] 42)).heap.size (lt_of_block hnew) (fun hm => by rw [List.mem_singleton] at hm; omega)
    exact cell_of_row w' _ 1 _ _ _ (hblk.trans hnew)⟩, by
    obtain ⟨_, ⟨v', T, u, hb, _⟩, _⟩ := h
    exact ⟨_, hb⟩⟩)
  have H := Lib.hid (addValue_true Ak kids.len ck b (w.alloc (.cells #[.int .i64 25, .int .i64 n, .int .i64 t, .slice Ad d.length cd, .slice Ao o.length co, .slice Ak kids.len ck] 42)) _ ST HR.out)
  have HFIN : Hid (∀ e w', (∃ w1 s, ErrP ((w.alloc (.cells #[.int .i64 25, .int .i64 n, .int .i64 t, .slice Ad d.length cd, .slice Ao o.length co, .slice Ak kids.len ck] 42)).alloc (.cells #[.slice Ak kids.len ck, .bool true] 85)) b (runE kids) (.returned (.tuple #[])) w1 ∧ e = .returned (.tuple #[]) ∧ w' = (w1.setCell ⟨b, 0, none⟩ (.iface 92 (.pointer (some ⟨w1.heap.size, 0, none⟩)))).alloc (.cells #[.string s] 94)) → ErrP w b (valBad (runE kids)) e w') := Lib.hid (fun e w' h => by
    obtain ⟨w1, s, h, rfl, rfl⟩ := h
    rcases runE_two kids with e1 | e1
    · rw [e1] at h ⊢
      exact ⟨((((((Only.refl _ _).alloc _).alloc _).then h.1 (fun k hk _ => hk))).setCell (.inl (by simp)) _).alloc _, (h.2.1.set0 _ _).alloc _, rfl⟩
    · rw [e1] at h; obtain ⟨_, _, T, u, h1⟩ := h; cases h1)
  have HPAN : Hid (∀ e w', (∃ T u, e = .panicked [panE T u]) → ErrP ((w.alloc (.cells #[.int .i64 25, .int .i64 n, .int .i64 t, .slice Ad d.length cd, .slice Ao o.length co, .slice Ak kids.len ck] 42)).alloc (.cells #[.slice Ak kids.len ck, .bool true] 85)) b (runE kids) e w' → ErrP w b (valBad (runE kids)) e w') := Lib.hid (fun e w' he h => by
    obtain ⟨T, u, rfl⟩ := he
    rcases runE_two kids with e1 | e1
    · rw [e1] at h; obtain ⟨_, _, h1⟩ := h; cases h1
    · rw [e1] at h ⊢
      exact ⟨((((Only.refl _ _).alloc _).alloc _).then h.1 (fun k hk _ => hk)), h.2.1, T, u, rfl⟩)
  obtain ⟨n0, n1⟩ := hi.rn
  clear h hi hB hBb h0 h1 hB0 i1 ST HR hk hok hrg hw hnew hblt
  unfold itemV
  go_enter Try.func22, Try.ntmps22
  go_wp2_with fail
  refine H.out.mono ?_
  rintro e w' (hh | ⟨⟨T, u, rfl⟩, hh⟩)
  · have HQ := Lib.hid (HFIN.out e w' hh)
    obtain rfl : e = .returned (.tuple #[]) := by obtain ⟨_, _, _, h, _⟩ := hh; exact h
    clear hh H
    go_wp2_with fail
    go_end0
    exact HQ.out
  · exact ⟨rfl, HPAN.out _ _ ⟨T, u, rfl⟩ hh⟩

end Go.Proofs.Ytndnglpehghmeaa

/-! ### One step: contracts over the kinds. -/
namespace Go.Proofs.Ytndnglpehghmeaa
open Go.RowKit

/-- The function that does a step of a kind. -/
def fnOf (k : Int) : FuncId := if k ≤ 6 then 19 else if k ≤ 11 then 20 else if k ≤ 20 then 21 else 22
theorem run_pre_nil (r : Res) : r.pre [] = r := by cases r <;> rfl
theorem one_val (re : Res) : valBad re = oneE 24 re := by cases re <;> rfl
theorem one_val2 (re : Res) : valBad re = oneE 25 re := by cases re <;> rfl

theorem one_good (k n t : Int) (d o : List Int) (kids : Its) (Ad : Option Addr) (cd : Nat) (Ao : Option Addr) (co : Nat) (Ak : Option Addr) (ck : Nat) (w : World) (base b N : Nat) (v : Bv) (ys cs : List Int) (ins : Bool) (B : Nat) (g : Good w base b v ys cs ins B) (hi : ItemRd w B n t d o kids Ad Ao Ak) (hk0 : 0 ≤ k) (hk1 : k ≤ 25)
    (hl : (ys ++ cs).length + (24 + d.length + 5 * o.length + wt kids) ≤ 2000000000) (hN : (ys ++ cs).length + (24 + d.length + 5 * o.length + wt kids) ≤ N) (hk : StepsOK kids) (hok : Ok kids (ins || decide (7 ≤ k ∧ k ≤ 11))) (h23 : k = 23 → ins = true) (hrg : Rng kids) (hw : wt kids ≤ 4000000)
    (r : Res) (hr : one ins k n t d o (run kids true []) (run kids ins) cs = some r) :
    Calls Try.prog (fnOf k) #[.pointer (some ⟨b, 0, none⟩), itemV k n t d o kids Ad cd Ao co Ak ck] w (DoneP w base b v ys ins N r) := by
  by_cases e0 : k = 0
  · subst e0
    obtain rfl := Option.some.inj (show some (resCat cs (some (bigB n 1))) = some r from hr)
    exact plain_good0 n t d o kids Ad cd Ao co Ak ck w base b N v ys cs ins B g hi (by omega)
  by_cases e1 : k = 1
  · subst e1
    obtain rfl := Option.some.inj (show some (resCat cs (some (bigB n 2))) = some r from hr)
    exact plain_good1 n t d o kids Ad cd Ao co Ak ck w base b N v ys cs ins B g hi (by omega)
  by_cases e2 : k = 2
  · subst e2
    obtain rfl := Option.some.inj (show some (resCat cs (some (bigB n 3))) = some r from hr)
    exact plain_good2 n t d o kids Ad cd Ao co Ak ck w base b N v ys cs ins B g hi (by omega)
  by_cases e3 : k = 3
  · subst e3
    obtain rfl := Option.some.inj (show some (resCat cs (some (bigB n 4))) = some r from hr)
    exact plain_good3 n t d o kids Ad cd Ao co Ak ck w base b N v ys cs ins B g hi (by omega)
  by_cases e4 : k = 4
  · subst e4
    obtain rfl := Option.some.inj (show some (resCat cs (some (bigB n 6))) = some r from hr)
    exact plain_good4 n t d o kids Ad cd Ao co Ak ck w base b N v ys cs ins B g hi (by omega)
  by_cases e5 : k = 5
  · subst e5
    obtain rfl := Option.some.inj (show some (resCat cs (some (bigB n 8))) = some r from hr)
    exact plain_good5 n t d o kids Ad cd Ao co Ak ck w base b N v ys cs ins B g hi (by omega)
  by_cases e6 : k = 6
  · subst e6
    obtain rfl := Option.some.inj (show some (resCat cs (some d)) = some r from hr)
    exact plain_good6 n t d o kids Ad cd Ao co Ak ck w base b N v ys cs ins B g hi (by omega)
  by_cases e7 : k = 7
  · subst e7
    cases hrk : run kids true [] with
    | none => rw [hrk] at hr; cases hr
    | some r0 =>
      rw [hrk] at hr
      obtain rfl := Option.some.inj (show some ((fun r => (lpRes false 1 ins r).pre cs) r0) = some r from hr)
      exact nested_good7 n t d o kids Ad cd Ao co Ak ck w base b N v ys cs ins B g hi (by omega) (by omega) hk (by simpa using hok) hrg hw r0 hrk
  by_cases e8 : k = 8
  · subst e8
    cases hrk : run kids true [] with
    | none => rw [hrk] at hr; cases hr
    | some r0 =>
      rw [hrk] at hr
      obtain rfl := Option.some.inj (show some ((fun r => (lpRes false 2 ins r).pre cs) r0) = some r from hr)
      exact nested_good8 n t d o kids Ad cd Ao co Ak ck w base b N v ys cs ins B g hi (by omega) (by omega) hk (by simpa using hok) hrg hw r0 hrk
  by_cases e9 : k = 9
  · subst e9
    cases hrk : run kids true [] with
    | none => rw [hrk] at hr; cases hr
    | some r0 =>
      rw [hrk] at hr
      obtain rfl := Option.some.inj (show some ((fun r => (lpRes false 3 ins r).pre cs) r0) = some r from hr)
      exact nested_good9 n t d o kids Ad cd Ao co Ak ck w base b N v ys cs ins B g hi (by omega) (by omega) hk (by simpa using hok) hrg hw r0 hrk
  by_cases e10 : k = 10
  · subst e10
    cases hrk : run kids true [] with
    | none => rw [hrk] at hr; cases hr
    | some r0 =>
      rw [hrk] at hr
      obtain rfl := Option.some.inj (show some ((fun r => (lpRes false 4 ins r).pre cs) r0) = some r from hr)
      exact nested_good10 n t d o kids Ad cd Ao co Ak ck w base b N v ys cs ins B g hi (by omega) (by omega) hk (by simpa using hok) hrg hw r0 hrk
  by_cases e11 : k = 11
  · subst e11
    cases hrk : run kids true [] with
    | none => rw [hrk] at hr; cases hr
    | some r0 =>
      rw [hrk] at hr
      obtain rfl := Option.some.inj (show some ((fun r => (asnAll t ins r).pre cs) r0) = some r from hr)
      exact nested_good11 n t d o kids Ad cd Ao co Ak ck w base b N v ys cs ins B g hi (by omega) (by omega) hk (by simpa using hok) hrg hw r0 hrk
  by_cases e12 : k = 12
  · subst e12
    obtain rfl := Option.some.inj (show some (resCat cs (elem 1 [if n = 1 then 255 else 0])) = some r from hr)
    exact element_good12 n t d o kids Ad cd Ao co Ak ck w base b N v ys cs ins B g hi (by omega) (by omega)
  by_cases e13 : k = 13
  · subst e13
    obtain rfl := Option.some.inj (show some (resCat cs (elem 2 (octs n))) = some r from hr)
    exact element_good13 n t d o kids Ad cd Ao co Ak ck w base b N v ys cs ins B g hi (by omega) (by omega)
  by_cases e14 : k = 14
  · subst e14
    obtain rfl := Option.some.inj (show some (resCat cs (elem t (octs n))) = some r from hr)
    exact element_good14 n t d o kids Ad cd Ao co Ak ck w base b N v ys cs ins B g hi (by omega) (by omega)
  by_cases e15 : k = 15
  · subst e15
    obtain rfl := Option.some.inj (show some (resCat cs (elem 2 (uocts (n % 18446744073709551616)))) = some r from hr)
    exact element_good15 n t d o kids Ad cd Ao co Ak ck w base b N v ys cs ins B g hi (by omega) (by omega)
  by_cases e16 : k = 16
  · subst e16
    obtain rfl := Option.some.inj (show some (resCat cs (elem 10 (octs n))) = some r from hr)
    exact element_good16 n t d o kids Ad cd Ao co Ak ck w base b N v ys cs ins B g hi (by omega) (by omega)
  by_cases e17 : k = 17
  · subst e17
    obtain rfl := Option.some.inj (show some (resCat cs (elem 5 [])) = some r from hr)
    exact element_good17 n t d o kids Ad cd Ao co Ak ck w base b N v ys cs ins B g hi (by omega) (by omega)
  by_cases e18 : k = 18
  · subst e18
    obtain rfl := Option.some.inj (show some (resCat cs (elem 4 d)) = some r from hr)
    exact element_good18 n t d o kids Ad cd Ao co Ak ck w base b N v ys cs ins B g hi (by omega) (by omega)
  by_cases e19 : k = 19
  · subst e19
    obtain rfl := Option.some.inj (show some (resCat cs (elem 3 (0 :: d))) = some r from hr)
    exact element_good19 n t d o kids Ad cd Ao co Ak ck w base b N v ys cs ins B g hi (by omega) (by omega)
  by_cases e20 : k = 20
  · subst e20
    obtain rfl := Option.some.inj (show some (resCat cs ((oidCs o).bind (elem 6))) = some r from hr)
    exact element_good20 n t d o kids Ad cd Ao co Ak ck w base b N v ys cs ins B g hi (by omega) (by omega)
  by_cases e21 : k = 21
  · subst e21
    obtain rfl := Option.some.inj (show some Res.err = some r from hr)
    exact other_good21 n t d o kids Ad cd Ao co Ak ck w base b N v ys cs ins B g hi
  by_cases e22 : k = 22
  · subst e22
    have hr' : (if 0 ≤ n ∧ n ≤ cs.length then some (Res.good (cs.take (cs.length - n.toNat))) else none) = some r := hr
    split at hr'
    · rename_i hn
      obtain rfl := Option.some.inj hr'
      exact other_good22 n t d o kids Ad cd Ao co Ak ck w base b N v ys cs ins B g hi (by omega) hn.1 hn.2
    · cases hr'
  by_cases e23 : k = 23
  · subst e23
    obtain rfl := Option.some.inj (show some Res.pan = some r from hr)
    exact other_good23 n t d o kids Ad cd Ao co Ak ck w base b N v ys cs ins B g hi (h23 rfl) (by omega)
  by_cases e24 : k = 24
  · subst e24
    exact other_good24 n t d o kids Ad cd Ao co Ak ck w base b N v ys cs ins B g hi (by omega) (by omega) hk (by simpa using hok) hrg hw r hr
  by_cases e25 : k = 25
  · subst e25
    cases hrk : run kids ins cs with
    | none =>
      have hr' : (run kids ins cs).map valBad = some r := by rw [← hr]; cases hq : run kids ins cs with
        | none => simp [one, hq]
        | some q => cases q <;> simp [one, hq, valBad]
      rw [hrk] at hr'; cases hr'
    | some r0 =>
      have hr' : (run kids ins cs).map valBad = some r := by rw [← hr]; cases hq : run kids ins cs with
        | none => simp [one, hq]
        | some q => cases q <;> simp [one, hq, valBad]
      rw [hrk] at hr'
      obtain rfl := Option.some.inj (show some (valBad r0) = some r from hr')
      exact other_good25 n t d o kids Ad cd Ao co Ak ck w base b N v ys cs ins B g hi (by omega) (by omega) hk (by simpa using hok) hrg hw r0 hrk
  omega

theorem one_err (k n t : Int) (d o : List Int) (kids : Its) (Ad : Option Addr) (cd : Nat) (Ao : Option Addr) (co : Nat) (Ak : Option Addr) (ck : Nat) (w : World) (b : Nat) (ins : Bool) (B : Nat) (h : Erred w b) (hB : B ≤ w.heap.size) (hBb : B ≤ b) (hi : ItemRd w B n t d o kids Ad Ao Ak) (hk0 : 0 ≤ k) (hk1 : k ≤ 25)
    (hk : StepsErr kids) (hok : Ok kids (ins || decide (7 ≤ k ∧ k ≤ 11))) (hrg : Rng kids) (hw : wt kids ≤ 4000000) :
    Calls Try.prog (fnOf k) #[.pointer (some ⟨b, 0, none⟩), itemV k n t d o kids Ad cd Ao co Ak ck] w (ErrP w b (oneE k (runE kids))) := by
  by_cases e0 : k = 0
  · subst e0
    exact Calls.mono (plain_err0 n t d o kids Ad cd Ao co Ak ck w b B h hi hB) (fun e w' hh => Idle.toE hh h)
  by_cases e1 : k = 1
  · subst e1
    exact Calls.mono (plain_err1 n t d o kids Ad cd Ao co Ak ck w b B h hi hB) (fun e w' hh => Idle.toE hh h)
  by_cases e2 : k = 2
  · subst e2
    exact Calls.mono (plain_err2 n t d o kids Ad cd Ao co Ak ck w b B h hi hB) (fun e w' hh => Idle.toE hh h)
  by_cases e3 : k = 3
  · subst e3
    exact Calls.mono (plain_err3 n t d o kids Ad cd Ao co Ak ck w b B h hi hB) (fun e w' hh => Idle.toE hh h)
  by_cases e4 : k = 4
  · subst e4
    exact Calls.mono (plain_err4 n t d o kids Ad cd Ao co Ak ck w b B h hi hB) (fun e w' hh => Idle.toE hh h)
  by_cases e5 : k = 5
  · subst e5
    exact Calls.mono (plain_err5 n t d o kids Ad cd Ao co Ak ck w b B h hi hB) (fun e w' hh => Idle.toE hh h)
  by_cases e6 : k = 6
  · subst e6
    exact Calls.mono (plain_err6 n t d o kids Ad cd Ao co Ak ck w b B h hi hB) (fun e w' hh => Idle.toE hh h)
  by_cases e7 : k = 7
  · subst e7
    exact Calls.mono (nested_err7 n t d o kids Ad cd Ao co Ak ck w b B h hi) (fun e w' hh => Idle.toE hh h)
  by_cases e8 : k = 8
  · subst e8
    exact Calls.mono (nested_err8 n t d o kids Ad cd Ao co Ak ck w b B h hi) (fun e w' hh => Idle.toE hh h)
  by_cases e9 : k = 9
  · subst e9
    exact Calls.mono (nested_err9 n t d o kids Ad cd Ao co Ak ck w b B h hi) (fun e w' hh => Idle.toE hh h)
  by_cases e10 : k = 10
  · subst e10
    exact Calls.mono (nested_err10 n t d o kids Ad cd Ao co Ak ck w b B h hi) (fun e w' hh => Idle.toE hh h)
  by_cases e11 : k = 11
  · subst e11
    exact Calls.mono (nested_err11 n t d o kids Ad cd Ao co Ak ck w b B h hi) (fun e w' hh => Idle.toE hh h)
  by_cases e12 : k = 12
  · subst e12
    exact Calls.mono (element_err12 n t d o kids Ad cd Ao co Ak ck w b B h hi hB) (fun e w' hh => Idle.toE hh h)
  by_cases e13 : k = 13
  · subst e13
    exact Calls.mono (element_err13 n t d o kids Ad cd Ao co Ak ck w b B h hi hB) (fun e w' hh => Idle.toE hh h)
  by_cases e14 : k = 14
  · subst e14
    exact Calls.mono (element_err14 n t d o kids Ad cd Ao co Ak ck w b B h hi hB) (fun e w' hh => Idle.toE hh h)
  by_cases e15 : k = 15
  · subst e15
    exact Calls.mono (element_err15 n t d o kids Ad cd Ao co Ak ck w b B h hi hB) (fun e w' hh => Idle.toE hh h)
  by_cases e16 : k = 16
  · subst e16
    exact Calls.mono (element_err16 n t d o kids Ad cd Ao co Ak ck w b B h hi hB) (fun e w' hh => Idle.toE hh h)
  by_cases e17 : k = 17
  · subst e17
    exact Calls.mono (element_err17 n t d o kids Ad cd Ao co Ak ck w b B h hi hB) (fun e w' hh => Idle.toE hh h)
  by_cases e18 : k = 18
  · subst e18
    exact Calls.mono (element_err18 n t d o kids Ad cd Ao co Ak ck w b B h hi hB) (fun e w' hh => Idle.toE hh h)
  by_cases e19 : k = 19
  · subst e19
    exact Calls.mono (element_err19 n t d o kids Ad cd Ao co Ak ck w b B h hi hB) (fun e w' hh => Idle.toE hh h)
  by_cases e20 : k = 20
  · subst e20
    exact Calls.mono (element_err20 n t d o kids Ad cd Ao co Ak ck w b B h hi hB) (fun e w' hh => Idle.toE hh h)
  by_cases e21 : k = 21
  · subst e21
    exact other_err21 n t d o kids Ad cd Ao co Ak ck w b B h hi
  by_cases e22 : k = 22
  · subst e22
    exact other_err22 n t d o kids Ad cd Ao co Ak ck w b B h hi
  by_cases e23 : k = 23
  · subst e23
    exact other_err23 n t d o kids Ad cd Ao co Ak ck w b B h hi
  by_cases e24 : k = 24
  · subst e24
    rw [← one_val]
    exact other_err24 n t d o kids Ad cd Ao co Ak ck w b B h hi hB hBb ins hk (by simpa using hok) hrg hw
  by_cases e25 : k = 25
  · subst e25
    rw [← one_val2]
    exact other_err25 n t d o kids Ad cd Ao co Ak ck w b B h hi hB hBb ins hk (by simpa using hok) hrg hw
  omega

end Go.Proofs.Ytndnglpehghmeaa

/-! ### The loop over steps. -/
namespace Go.Proofs.Ytndnglpehghmeaa
open Go.RowKit

/-- How a loop's state is held: where an error is. -/
def StE (w : World) (B : Nat) (A : Option Addr) (b : Nat) (ins : Bool) (n : Nat) (re : Res) (j : Nat) (its : Its) (W : World) : Prop :=
  LeftAt w B A j its ∧ j + its.len = n ∧ Kids StepsErr its ∧ Ok its ins ∧ Rng its ∧ wt its ≤ 4000000 ∧ runE its = re ∧ Only [b] w W ∧ Erred W b
theorem oneE_two (k : Int) (r : Res) : oneE k r = .err ∨ oneE k r = .pan := by
  unfold oneE
  split
  · exact .inr rfl
  · split
    · cases r
      · exact .inl rfl
      · exact .inl rfl
      · exact .inr rfl
    · exact .inl rfl
theorem steps_err (its : Its) (hall : Kids StepsErr its) : StepsErr its := by
  intro ins b w B A n c h hi hn hok hrg hB hBb hw
  obtain ⟨re, hre⟩ : ∃ re, runE its = re := ⟨_, rfl⟩
  rw [hre]
  have H0 : Hid (StE w B A b ins n re 0 its w) := Lib.hid ⟨hi, by omega, hall, hok, hrg, hw, hre, Only.refl _ _, h⟩
  have HB := Lib.hid (And.intro hB hBb)
  have hnb : n ≤ 4000000 := by have := len_wt its; omega
  clear h hi hn hok hrg hB hBb hw hall hre
  go_enter Try.func10, Try.ntmps10
  go_wp2_with fail
  go_loopw [8] (fun i W => ∃ (j : Nat) (its' : Its), i = .int .i64 (j : Int) ∧ StE w B A b ins n re j its' W) (fun i _ => n - (intOf i).toNat)
  case atStart => exact ⟨0, its, by simp, H0.out⟩
  case round =>
    obtain ⟨j, its', rfl, hl, hj, hall, hok, hrg, hw, hre, ho, he⟩ := hrel
    cases its' with
    | nil =>
      have hjn : j = n := hj
      subst hjn
      have HQ : Hid (ErrP w b re (.returned (.tuple #[])) wr) := Lib.hid ⟨ho, he, by rw [← hre]; rfl⟩
      clear H0 hl hj hall hok hrg hw hre ho he
      go_wp2_with fail
      go_end0
      exact HQ.out
    | cons k i t d o kids rest =>
      obtain ⟨blk, off, rfl, hbl, Ad, cd, Ao, co, Ak, ck, hcs, r2, r3, r4, r5, r6, r7, r8, r9, r10, r11, r12, r13, r14⟩ := hl (by simp [Its.len])
      have hcell : ∀ (q : Nat) (u : Value), (itemCells k i t d o Ad cd Ao co Ak kids.len ck)[q]? = some u → wr.cell? ⟨blk, off + j * 6 + q, none⟩ = some u := fun q u hq => by
        rw [Nat.mul_comm j 6]
        exact (ho.cell (p := ⟨blk, off + 6 * j + q, none⟩) (by show blk < _; have := HB.out.1; omega) (by intro hm; simp only [List.mem_singleton] at hm; have := HB.out.2; omega)).trans (hcs q u hq)
      have hc0 := hcell 0 _ rfl
      have hc1 := hcell 1 _ rfl
      have hc2 := hcell 2 _ rfl
      have hc3 := hcell 3 _ rfl
      have hc4 := hcell 4 _ rfl
      have hc5 := hcell 5 _ rfl
      have hlt : (j : Int) < (n : Int) := by simp only [Its.len] at hj; omega
      obtain ⟨o1, o2, o3, o4, o5, o6, o7, o8⟩ := hok
      obtain ⟨g1, g2, g3⟩ := hrg
      have hwr : B ≤ wr.heap.size := Nat.le_trans HB.out.1 ho.size
      have HI : ItemRd (wr.alloc (.cells #[.int .i64 k, .int .i64 i, .int .i64 t, .slice Ad d.length cd, .slice Ao o.length co, .slice Ak kids.len ck] 42)) B i t d o kids Ad Ao Ak := ItemRd.alloc ⟨g1, ⟨o3, o4⟩, r5.only ho (by simp; exact HB.out.2) HB.out.1, r8.only ho (by simp; exact HB.out.2) HB.out.1, ItsRd.only (w := w) (fun hp => by obtain ⟨b', off', e, hb', h⟩ := r13 hp; exact ⟨b', off', e, hb', h⟩) ho (by simp; exact HB.out.2) HB.out.1, o6, by simp only [wt] at hw; omega, by simp only [wt] at hw; omega⟩ hwr _
      have H := Lib.hid (one_err k i t d o kids Ad cd Ao co Ak ck (wr.alloc (.cells #[.int .i64 k, .int .i64 i, .int .i64 t, .slice Ad d.length cd, .slice Ao o.length co, .slice Ak kids.len ck] 42)) b ins B (he.alloc _) (by simp; omega) HB.out.2 HI o1 o2 hall.1 o7 g2 (by simp only [wt] at hw; omega))
      have HN : Hid (∀ w', ErrP (wr.alloc (.cells #[.int .i64 k, .int .i64 i, .int .i64 t, .slice Ad d.length cd, .slice Ao o.length co, .slice Ak kids.len ck] 42)) b .err (.returned (.tuple #[])) w' → oneE k (runE kids) = .err → StE w B (some ⟨blk, off, none⟩) b ins n re (j + 1) rest w') := Lib.hid (fun w' h e => ⟨LeftAt.next hbl r14, by simp only [Its.len] at hj; omega, hall.2, o8, g3, by simp only [wt] at hw; omega, by
        rw [← hre]; simp only [runE, e], (ho.alloc _).trans h.1, h.2.1⟩)
      have HP : Hid (∀ T u w', ErrP (wr.alloc (.cells #[.int .i64 k, .int .i64 i, .int .i64 t, .slice Ad d.length cd, .slice Ao o.length co, .slice Ak kids.len ck] 42)) b .pan (.panicked [panE T u]) w' → oneE k (runE kids) = .pan → ErrP w b re (.panicked [panE T u]) w') := Lib.hid (fun T u w' h e => by
        rw [show re = .pan from by rw [← hre]; simp only [runE, e]]
        exact ⟨(ho.alloc _).trans h.1, h.2.1, T, u, rfl⟩)
      have HJ := Lib.hid hj
      generalize runE kids = rk at *
      unfold itemV at H
      have hq := o1
      clear H0 hl hcs hcell r2 r3 r4 r5 r6 r7 r8 r9 r10 r11 r12 r13 r14 o3 o4 o5 o6 o7 o8 g1 g2 g3 hwr HI hall hw hre ho he hj o1 o2 hq
      rw [Nat.add_zero] at hc0
      go_wp2_with fail
      · have HC := H.out
        rw [show fnOf k = 19 from by unfold fnOf; repeat (first | rw [if_pos (by omega)] | rw [if_neg (by omega)])] at HC
        refine HC.mono ?_
        clear HC H hc0 hc1 hc2 hc3 hc4 hc5
        intro e w' hh
        rcases oneE_two k rk with e1 | e1
        · rw [e1] at hh
          obtain rfl : e = .returned (.tuple #[]) := hh.2.2
          have HS := Lib.hid (HN.out w' hh e1)
          have hw64 : wrap64 ((j : Int) + 1) = (j : Int) + 1 := by have := HJ.out; simp only [Its.len] at this; unfold wrap64; omega
          clear hh e1 HN HP
          go_wp2_with fail
          go_roundw
          case rel => exact ⟨j + 1, rest, by first | (rw [hw64]; rfl) | simp, HS.out⟩
          case measure => simp [intOf]; have := HJ.out; simp only [Its.len] at this; omega
        · rw [e1] at hh
          obtain ⟨T, u, rfl⟩ := hh.2.2
          exact ⟨rfl, HP.out _ _ _ hh e1⟩
      · have HC := H.out
        rw [show fnOf k = 20 from by unfold fnOf; repeat (first | rw [if_pos (by omega)] | rw [if_neg (by omega)])] at HC
        refine HC.mono ?_
        clear HC H hc0 hc1 hc2 hc3 hc4 hc5
        intro e w' hh
        rcases oneE_two k rk with e1 | e1
        · rw [e1] at hh
          obtain rfl : e = .returned (.tuple #[]) := hh.2.2
          have HS := Lib.hid (HN.out w' hh e1)
          have hw64 : wrap64 ((j : Int) + 1) = (j : Int) + 1 := by have := HJ.out; simp only [Its.len] at this; unfold wrap64; omega
          clear hh e1 HN HP
          go_wp2_with fail
          go_roundw
          case rel => exact ⟨j + 1, rest, by first | (rw [hw64]; rfl) | simp, HS.out⟩
          case measure => simp [intOf]; have := HJ.out; simp only [Its.len] at this; omega
        · rw [e1] at hh
          obtain ⟨T, u, rfl⟩ := hh.2.2
          exact ⟨rfl, HP.out _ _ _ hh e1⟩
      · have HC := H.out
        rw [show fnOf k = 21 from by unfold fnOf; repeat (first | rw [if_pos (by omega)] | rw [if_neg (by omega)])] at HC
        refine HC.mono ?_
        clear HC H hc0 hc1 hc2 hc3 hc4 hc5
        intro e w' hh
        rcases oneE_two k rk with e1 | e1
        · rw [e1] at hh
          obtain rfl : e = .returned (.tuple #[]) := hh.2.2
          have HS := Lib.hid (HN.out w' hh e1)
          have hw64 : wrap64 ((j : Int) + 1) = (j : Int) + 1 := by have := HJ.out; simp only [Its.len] at this; unfold wrap64; omega
          clear hh e1 HN HP
          go_wp2_with fail
          go_roundw
          case rel => exact ⟨j + 1, rest, by first | (rw [hw64]; rfl) | simp, HS.out⟩
          case measure => simp [intOf]; have := HJ.out; simp only [Its.len] at this; omega
        · rw [e1] at hh
          obtain ⟨T, u, rfl⟩ := hh.2.2
          exact ⟨rfl, HP.out _ _ _ hh e1⟩
      · have HC := H.out
        rw [show fnOf k = 22 from by unfold fnOf; repeat (first | rw [if_pos (by omega)] | rw [if_neg (by omega)])] at HC
        refine HC.mono ?_
        clear HC H hc0 hc1 hc2 hc3 hc4 hc5
        intro e w' hh
        rcases oneE_two k rk with e1 | e1
        · rw [e1] at hh
          obtain rfl : e = .returned (.tuple #[]) := hh.2.2
          have HS := Lib.hid (HN.out w' hh e1)
          have hw64 : wrap64 ((j : Int) + 1) = (j : Int) + 1 := by have := HJ.out; simp only [Its.len] at this; unfold wrap64; omega
          clear hh e1 HN HP
          go_wp2_with fail
          go_roundw
          case rel => exact ⟨j + 1, rest, by first | (rw [hw64]; rfl) | simp, HS.out⟩
          case measure => simp [intOf]; have := HJ.out; simp only [Its.len] at this; omega
        · rw [e1] at hh
          obtain ⟨T, u, rfl⟩ := hh.2.2
          exact ⟨rfl, HP.out _ _ _ hh e1⟩

/-- How a loop's state is held: where no error was at first. -/
def StG (w : World) (base b : Nat) (v : Bv) (ys : List Int) (ins : Bool) (N B : Nat) (A : Option Addr) (n : Nat) (res : Res) (j : Nat) (its : Its) (W : World) : Prop :=
  LeftAt w B A j its ∧ j + its.len = n ∧ (Kids StepsOK its ∧ Kids StepsErr its) ∧ Ok its ins ∧ Rng its ∧ wt its ≤ 4000000 ∧ Only (LL ins b v) w W ∧
  ((∃ r i cs, Good W base b { v with res := r, inc := i } ys cs ins B ∧ OwnLe w v.res r ∧ (ins = true → i = v.inc) ∧ (∀ k ∈ incI i, k ∈ incI v.inc ∨ w.heap.size ≤ k) ∧ run its ins cs = some res ∧ (ys ++ cs).length + wt its ≤ 2000000000 ∧ (ys ++ cs).length + wt its ≤ N) ∨ (Erred W b ∧ runE its = res))
theorem runE_pan : ∀ (its : Its) (ins : Bool), Ok its ins → runE its = .pan → ins = true := by
  intro its
  induction its with
  | nil => intro ins _ h; cases h
  | cons k n t d o kids rest ihk ihr =>
    intro ins ho h
    obtain ⟨_, _, _, _, o5, _, o7, o8⟩ := ho
    unfold runE at h
    split at h
    · rename_i h1
      unfold oneE at h1
      split at h1
      · rename_i e; exact o5 e
      · split at h1
        · rename_i e
          have h2 : runE kids = .pan := by
            rcases runE_two kids with q | q
            · rw [q] at h1; cases h1
            · exact q
          have := ihk _ o7 h2
          have hd : decide (7 ≤ k ∧ k ≤ 11) = false := by rcases e with rfl | rfl <;> decide
          rw [hd, Bool.or_false] at this
          exact this
        · cases h1
    · exact ihr _ o8 h
theorem oneE_pan {k : Int} {ins : Bool} {kids : Its} (h23 : k = 23 → ins = true) (ho : Ok kids (ins || decide (7 ≤ k ∧ k ≤ 11))) (h : oneE k (runE kids) = .pan) : ins = true := by
  unfold oneE at h
  split at h
  · rename_i e; exact h23 e
  · split at h
    · rename_i e
      have h2 : runE kids = .pan := by
        rcases runE_two kids with q | q
        · rw [q] at h; cases h
        · exact q
      have := runE_pan _ _ ho h2
      have hd : decide (7 ≤ k ∧ k ≤ 11) = false := by rcases e with rfl | rfl <;> decide
      rw [hd, Bool.or_false] at this
      exact this
    · cases h
theorem StG.done {w : World} {base b : Nat} {v : Bv} {ys : List Int} {ins : Bool} {N B : Nat} {A : Option Addr} {n : Nat} {res : Res} {j : Nat} {W : World} (h : StG w base b v ys ins N B A n res j .nil W) : DoneP w base b v ys ins N res (.returned (.tuple #[])) W := by
  obtain ⟨_, _, _, _, _, _, ho, h⟩ := h
  rcases h with ⟨r, i, cs, g, h1, h2, h3, h4, _⟩ | ⟨⟨v', T, u, h1, h2, h3⟩, e⟩
  · have h4' : Res.good cs = res := by simpa [run] using h4
    subst h4'
    exact ⟨ho, rfl, r, i, g.bld, g.row, h1, g.ready, h2, h3⟩
  · have e' : Res.err = res := e
    subst e'
    exact ⟨ho, rfl, T, u, v', h1, h2, h3⟩
theorem StG.step {w : World} {base b : Nat} {v : Bv} {ys : List Int} {ins : Bool} {N B : Nat} {n : Nat} {res : Res} {j : Nat} {W : World} {k i t : Int} {d o : List Int} {kids rest : Its} {blk off : Nat} {Ad : Option Addr} {cd : Nat} {Ao : Option Addr} {co : Nat} {Ak : Option Addr} {ck : Nat}
    (h : StG w base b v ys ins N B (some ⟨blk, off, none⟩) n res j (.cons k i t d o kids rest) W) (hbl : blk < B) (r14 : ItsAt w B rest blk (off + 6 * j + 6)) (hi : ItemRd (W.alloc (.cells #[.int .i64 k, .int .i64 i, .int .i64 t, .slice Ad d.length cd, .slice Ao o.length co, .slice Ak kids.len ck] 42)) B i t d o kids Ad Ao Ak) (hBb : B ≤ b) (hBw : B ≤ w.heap.size) :
    Calls Try.prog (fnOf k) #[.pointer (some ⟨b, 0, none⟩), itemV k i t d o kids Ad cd Ao co Ak ck] (W.alloc (.cells #[.int .i64 k, .int .i64 i, .int .i64 t, .slice Ad d.length cd, .slice Ao o.length co, .slice Ak kids.len ck] 42)) fun e w' => (e = .returned (.tuple #[]) ∧ StG w base b v ys ins N B (some ⟨blk, off, none⟩) n res (j + 1) rest w') ∨ ((∃ T u, e = .panicked [panE T u]) ∧ DoneP w base b v ys ins N res e w') := by
  obtain ⟨hl, hj, ⟨hk1, hk2⟩, hok, hrg, hw, ho, hs⟩ := h
  obtain ⟨o1, o2, o3, o4, o5, o6, o7, o8⟩ := hok
  obtain ⟨g1, g2, g3⟩ := hrg
  simp only [wt] at hw hs
  have hn : LeftAt w B (some ⟨blk, off, none⟩) (j + 1) rest := LeftAt.next hbl r14
  have hj1 : j + 1 + rest.len = n := by simp only [Its.len] at hj; omega
  have hBW : B ≤ (W.alloc (.cells #[.int .i64 k, .int .i64 i, .int .i64 t, .slice Ad d.length cd, .slice Ao o.length co, .slice Ak kids.len ck] 42)).heap.size := by have := ho.size; simp; omega
  rcases hs with ⟨r, ii, cs, g, q1, q2, q3, q4, q5, q6⟩ | ⟨he, hre⟩
  · unfold run at q4
    cases h1 : one ins k i t d o (run kids true []) (run kids ins) cs with
    | none => rw [h1] at q4; cases q4
    | some r1 =>
      rw [h1] at q4
      have hle : ∀ cs1, r1 = .good cs1 → cs1.length ≤ cs.length + (16 + d.length + 5 * o.length + wt kids) := fun cs1 e => one_le (K := wt kids) g1 (fun bs hb => by have := run_le kids true _ [] bs g2 o7 hb; simpa using this) (fun bs hb => run_le kids ins _ cs bs g2 o7 hb) (by rw [h1, e])
      have hgr := g.grow ((Only.refl _ _).alloc (.cells #[.int .i64 k, .int .i64 i, .int .i64 t, .slice Ad d.length cd, .slice Ao o.length co, .slice Ak kids.len ck] 42))
      refine Calls.mono (one_good k i t d o kids Ad cd Ao co Ak ck _ base b N { v with res := r, inc := ii } ys cs ins B hgr hi o1 o2 (by omega) (by omega) hk1.1 o7 o5 g2 (by omega) r1 h1) ?_
      intro e w' hd
      have hoA : Only (LL ins b v) w (W.alloc (.cells #[.int .i64 k, .int .i64 i, .int .i64 t, .slice Ad d.length cd, .slice Ao o.length co, .slice Ak kids.len ck] 42)) := ho.alloc _
      have hLL : ∀ x ∈ LL ins b { v with res := r, inc := ii }, x < w.heap.size → x ∈ LL ins b v := by
        intro x hx hlt
        simp only [LL, List.mem_cons, List.mem_append] at hx ⊢
        rcases hx with rfl | hx | hx
        · exact .inl rfl
        · right; left
          cases ins with
          | true => simp at hx
          | false =>
            simp only [Bool.false_eq_true, if_false] at hx ⊢
            rcases q3 x hx with h | h
            · exact h
            · omega
        · rcases q1 x hx with h | h
          · exact .inr (.inr h)
          · omega
      cases r1 with
      | good cs1 =>
        obtain ⟨he, r', i', g', p1, p2, p3, p4⟩ := hd.next hgr
        refine .inl ⟨he, hn, hj1, ⟨hk1.2, hk2.2⟩, o8, g3, by omega, hoA.then p4 hLL, .inl ⟨r', i', cs1, g', ?_, ?_, ?_, q4, ?_, ?_⟩⟩
        · intro x hx
          rcases p1 x hx with h | h
          · exact q1 x h
          · right; have := hoA.size; omega
        · intro e; rw [p2 e]; exact q2 e
        · intro x hx
          rcases p3 x hx with h | h
          · exact q3 x h
          · right; have := hoA.size; omega
        · have := hle cs1 rfl; simp only [List.length_append] at q5 ⊢; omega
        · have := hle cs1 rfl; simp only [List.length_append] at q6 ⊢; omega
      | err =>
        obtain ⟨p1, he, T, u, v', p2, p3, p4⟩ := hd
        exact .inl ⟨he, hn, hj1, ⟨hk1.2, hk2.2⟩, o8, g3, by omega, hoA.then p1 hLL, .inr ⟨⟨v', T, u, p2, p3, p4⟩, by simpa using q4⟩⟩
      | pan =>
        have : Res.pan = res := by simpa using q4
        subst this
        have hp := hd.2.2.1
        exact .inr ⟨hp, DoneP.trans hd hoA q1 q3 q2⟩
  · refine Calls.mono (one_err k i t d o kids Ad cd Ao co Ak ck _ b ins B (he.alloc _) hBW hBb hi o1 o2 hk2.1 o7 g2 (by omega)) ?_
    intro e w' hd
    obtain ⟨p1, p2, p3⟩ := hd
    have hoB : Only (LL ins b v) w w' := (ho.alloc _).trans (p1.more (fun x hx _ => by simp only [List.mem_singleton] at hx; simp [LL, hx]))
    unfold runE at hre
    rcases oneE_two k (runE kids) with e1 | e1
    · rw [e1] at p3 hre
      exact .inl ⟨p3, hn, hj1, ⟨hk1.2, hk2.2⟩, o8, g3, by omega, hoB, .inr ⟨p2, hre⟩⟩
    · rw [e1] at p3
      have hres : res = .pan := by rw [e1] at hre; exact hre.symm
      subst hres
      obtain ⟨T, u, rfl⟩ := p3
      obtain ⟨v', T', u', p4, p5, p6⟩ := p2
      exact .inr ⟨⟨T, u, rfl⟩, hoB, oneE_pan o5 o7 e1, ⟨T, u, rfl⟩, .err p4 p5 p6⟩
theorem steps_ok (its : Its) (hall1 : Kids StepsOK its) (hall2 : Kids StepsErr its) : StepsOK its := by
  intro ins b v ys cs w base B A n c N res g hi hn hok hrg hr hl hw hN
  have hBw := g.hB
  have hBb : B ≤ b := g.low b (by simp [LL])
  have HLo := Lib.hid g.low
  have H0 : Hid (StG w base b v ys ins N B A n res 0 its w) := Lib.hid ⟨hi, by omega, ⟨hall1, hall2⟩, hok, hrg, hw, Only.refl _ _, .inl ⟨v.res, v.inc, cs, g, OwnLe.refl _ _, fun _ => rfl, fun _ h => .inl h, hr, hl, hN⟩⟩
  have HB := Lib.hid (And.intro hBw hBb)
  have hnb : n ≤ 4000000 := by have := len_wt its; omega
  clear g hi hn hok hrg hr hl hw hN hBw hBb hall1 hall2
  go_enter Try.func10, Try.ntmps10
  go_wp2_with fail
  go_loopw [8] (fun i W => ∃ (j : Nat) (its' : Its), i = .int .i64 (j : Int) ∧ StG w base b v ys ins N B A n res j its' W) (fun i _ => n - (intOf i).toNat)
  case atStart => exact ⟨0, its, by simp, H0.out⟩
  case round =>
    obtain ⟨j, its', rfl, hst⟩ := hrel
    cases its' with
    | nil =>
      have HQ := Lib.hid hst.done
      have hjn : j = n := hst.2.1
      subst hjn
      clear H0 hst
      go_wp2_with fail
      go_end0
      exact HQ.out
    | cons k i t d o kids rest =>
      have HS := Lib.hid hst
      obtain ⟨hl, hj, _, hok, hrg, hw, ho, _⟩ := hst
      obtain ⟨blk, off, rfl, hbl, Ad, cd, Ao, co, Ak, ck, hcs, r2, r3, r4, r5, r6, r7, r8, r9, r10, r11, r12, r13, r14⟩ := hl (by simp [Its.len])
      have hcell : ∀ (q : Nat) (u : Value), (itemCells k i t d o Ad cd Ao co Ak kids.len ck)[q]? = some u → wr.cell? ⟨blk, off + j * 6 + q, none⟩ = some u := fun q u hq => by
        rw [Nat.mul_comm j 6]
        exact (ho.cell (p := ⟨blk, off + 6 * j + q, none⟩) (by show blk < _; have := HB.out.1; omega) (by intro hm; have := HLo.out _ hm; simp only at this; omega)).trans (hcs q u hq)
      have hc0 := hcell 0 _ rfl
      have hc1 := hcell 1 _ rfl
      have hc2 := hcell 2 _ rfl
      have hc3 := hcell 3 _ rfl
      have hc4 := hcell 4 _ rfl
      have hc5 := hcell 5 _ rfl
      have hlt : (j : Int) < (n : Int) := by simp only [Its.len] at hj; omega
      obtain ⟨o1, o2, o3, o4, o5, o6, o7, o8⟩ := hok
      obtain ⟨g1, g2, g3⟩ := hrg
      have hwr : B ≤ wr.heap.size := Nat.le_trans HB.out.1 ho.size
      have HI : ItemRd (wr.alloc (.cells #[.int .i64 k, .int .i64 i, .int .i64 t, .slice Ad d.length cd, .slice Ao o.length co, .slice Ak kids.len ck] 42)) B i t d o kids Ad Ao Ak := ItemRd.alloc ⟨g1, ⟨o3, o4⟩, r5.only ho HLo.out HB.out.1, r8.only ho HLo.out HB.out.1, ItsRd.only (w := w) (fun hp => by obtain ⟨b', off', e, hb', h⟩ := r13 hp; exact ⟨b', off', e, hb', h⟩) ho HLo.out HB.out.1, o6, by simp only [wt] at hw; omega, by simp only [wt] at hw; omega⟩ hwr _
      have H := Lib.hid (StG.step (cd := cd) (co := co) (ck := ck) HS.out hbl r14 HI HB.out.2 HB.out.1)
      have HJ := Lib.hid hj
      unfold itemV at H
      clear H0 HS hl hcs hcell r2 r3 r4 r5 r6 r7 r8 r9 r10 r11 r12 r13 r14 o3 o4 o5 o6 o7 o8 g1 g2 g3 hwr HI hw ho hj o1 o2
      rw [Nat.add_zero] at hc0
      go_wp2_with fail
      · have HC := H.out
        rw [show fnOf k = 19 from by unfold fnOf; repeat (first | rw [if_pos (by omega)] | rw [if_neg (by omega)])] at HC
        refine HC.mono ?_
        clear HC H hc0 hc1 hc2 hc3 hc4 hc5
        rintro e w' (⟨rfl, hh⟩ | ⟨⟨T, u, rfl⟩, hh⟩)
        · have HS := Lib.hid hh
          have hw64 : wrap64 ((j : Int) + 1) = (j : Int) + 1 := by have := HJ.out; simp only [Its.len] at this; unfold wrap64; omega
          clear hh
          go_wp2_with fail
          go_roundw
          case rel => exact ⟨j + 1, rest, by first | (rw [hw64]; rfl) | simp, HS.out⟩
          case measure => simp [intOf]; have := HJ.out; simp only [Its.len] at this; omega
        · exact ⟨rfl, hh⟩
      · have HC := H.out
        rw [show fnOf k = 20 from by unfold fnOf; repeat (first | rw [if_pos (by omega)] | rw [if_neg (by omega)])] at HC
        refine HC.mono ?_
        clear HC H hc0 hc1 hc2 hc3 hc4 hc5
        rintro e w' (⟨rfl, hh⟩ | ⟨⟨T, u, rfl⟩, hh⟩)
        · have HS := Lib.hid hh
          have hw64 : wrap64 ((j : Int) + 1) = (j : Int) + 1 := by have := HJ.out; simp only [Its.len] at this; unfold wrap64; omega
          clear hh
          go_wp2_with fail
          go_roundw
          case rel => exact ⟨j + 1, rest, by first | (rw [hw64]; rfl) | simp, HS.out⟩
          case measure => simp [intOf]; have := HJ.out; simp only [Its.len] at this; omega
        · exact ⟨rfl, hh⟩
      · have HC := H.out
        rw [show fnOf k = 21 from by unfold fnOf; repeat (first | rw [if_pos (by omega)] | rw [if_neg (by omega)])] at HC
        refine HC.mono ?_
        clear HC H hc0 hc1 hc2 hc3 hc4 hc5
        rintro e w' (⟨rfl, hh⟩ | ⟨⟨T, u, rfl⟩, hh⟩)
        · have HS := Lib.hid hh
          have hw64 : wrap64 ((j : Int) + 1) = (j : Int) + 1 := by have := HJ.out; simp only [Its.len] at this; unfold wrap64; omega
          clear hh
          go_wp2_with fail
          go_roundw
          case rel => exact ⟨j + 1, rest, by first | (rw [hw64]; rfl) | simp, HS.out⟩
          case measure => simp [intOf]; have := HJ.out; simp only [Its.len] at this; omega
        · exact ⟨rfl, hh⟩
      · have HC := H.out
        rw [show fnOf k = 22 from by unfold fnOf; repeat (first | rw [if_pos (by omega)] | rw [if_neg (by omega)])] at HC
        refine HC.mono ?_
        clear HC H hc0 hc1 hc2 hc3 hc4 hc5
        rintro e w' (⟨rfl, hh⟩ | ⟨⟨T, u, rfl⟩, hh⟩)
        · have HS := Lib.hid hh
          have hw64 : wrap64 ((j : Int) + 1) = (j : Int) + 1 := by have := HJ.out; simp only [Its.len] at this; unfold wrap64; omega
          clear hh
          go_wp2_with fail
          go_roundw
          case rel => exact ⟨j + 1, rest, by first | (rw [hw64]; rfl) | simp, HS.out⟩
          case measure => simp [intOf]; have := HJ.out; simp only [Its.len] at this; omega
        · exact ⟨rfl, hh⟩

theorem steps_all (its : Its) : StepsOK its ∧ StepsErr its := by
  suffices h : (StepsOK its ∧ StepsErr its) ∧ Kids StepsOK its ∧ Kids StepsErr its from h.1
  induction its with
  | nil => exact ⟨⟨steps_ok _ trivial trivial, steps_err _ trivial⟩, trivial, trivial⟩
  | cons k n t d o kids rest ihk ihr =>
    have h1 : Kids StepsOK (.cons k n t d o kids rest) := ⟨ihk.1.1, ihr.2.1⟩
    have h2 : Kids StepsErr (.cons k n t d o kids rest) := ⟨ihk.1.2, ihr.2.2⟩
    exact ⟨⟨steps_ok _ h1 h2, steps_err _ h2⟩, h1, h2⟩
end Go.Proofs.Ytndnglpehghmeaa

/-! ### Building by steps: contracts. -/
namespace Go.Proofs.Ytndnglpehghmeaa
open Go.RowKit

def resO : Res → Option (List Int)
  | .good cs => some cs
  | _ => none
theorem Outs.bef {w w1 w' : World} {o : Option (List Int)} {e : Ending} (h : Outs w1 o e w') (hk : Only [] w w1) : Outs w o e w' := by
  obtain ⟨A, c, ys, ok, h1, h2, h3, h4⟩ := h
  exact ⟨A, c, ys, ok, h1, h2, hk.trans h3, h4⟩
theorem bytesOf_P {w W0 w1 : World} {base b N : Nat} {v : Bv} {r : Res} {e1 : Ending} (hd : DoneP W0 base b v [] false N r e1 w1) (he : v.err = .nilIface) (ho : v.off = 0) (h0 : Only [] w W0) (hb : ∀ k ∈ LL false b v, w.heap.size ≤ k) (hlen : ∀ zs, r = .good zs → zs.length ≤ 140737488355328) :
    Calls Try.prog 11 #[.pointer (some ⟨b, 0, none⟩)] w1 (Outs w (resO r)) := by
  have hk : Only [] w w1 := h0.then hd.1 (by
    intro i hi hlt
    have := hb i hi
    omega)
  cases r with
  | good cs =>
    obtain ⟨_, _, r, i, hb1, hr1, _⟩ := hd
    exact (bytesOf_ok b _ cs w1 base hb1 he ho (by rw [List.nil_append] at hr1; exact hr1) (hlen cs rfl)).mono fun e w' h => Outs.bef h hk
  | err =>
    obtain ⟨_, _, T, u, v', hb1, h1, _⟩ := hd
    exact (bytesOf_no b _ T u w1 hb1 h1).mono fun e w' h => Outs.bef h hk
  | pan => obtain ⟨_, h, _⟩ := hd; cases h
theorem Good.zero {w : World} {B : Nat} (hB : B ≤ w.heap.size) : Good (w.alloc (.cells Bv.zero.cells 35)) w.heap.size w.heap.size Bv.zero [] [] false B :=
  ⟨Bld.new w Bv.zero, rfl, rfl, rfl, .inl ⟨rfl, rfl⟩, Row.nil _ _, by simp, by simp [Bv.zero], by intro k hk; simp [LL, Bv.zero, incI, own, Value.ownBlock] at hk; omega, by simp; omega⟩
theorem build_any (its : Its) (A : Option Addr) (n c : Nat) (w : World) (B : Nat) (res : Res) (hi : ItsRd w B A its) (hn : n = its.len) (hB : B ≤ w.heap.size) (hok : Ok its false) (hrg : Rng its) (hr : run its false [] = some res) (hw : wt its ≤ 4000000) :
    Calls Try.prog 5 #[.slice A n c] w (Outs w (resO res)) := by
  have H := Lib.hid ((steps_all its).1 false w.heap.size Bv.zero [] [] (w.alloc (.cells Bv.zero.cells 35)) w.heap.size B A n c (wt its) res (Good.zero hB) (hi.only (l := []) ((Only.refl _ _).alloc _) (by simp) hB) hn hok hrg hr (by simp; omega) hw (by simp))
  have HO := Lib.hid (fun e1 w1 (hd : DoneP (w.alloc (.cells Bv.zero.cells 35)) w.heap.size w.heap.size Bv.zero [] false (wt its) res e1 w1) => bytesOf_P (w := w) hd rfl rfl ((Only.refl _ _).alloc _) (by intro k hk; simp [LL, Bv.zero, incI, own, Value.ownBlock] at hk; omega) (fun zs e => by subst e; have := run_le its false false [] zs hrg hok hr; simp at this; omega))
  have HR : Hid (∀ e1 w1, DoneP (w.alloc (.cells Bv.zero.cells 35)) w.heap.size w.heap.size Bv.zero [] false (wt its) res e1 w1 → e1 = .returned (.tuple #[])) := Lib.hid (fun e1 w1 h => by
    cases res with
    | good cs => exact h.2.1
    | err => exact h.2.1
    | pan => obtain ⟨_, h, _⟩ := h; cases h)
  clear hi hn hB hok hrg hr hw
  go_enter Try.func5, Try.ntmps5
  go_wp2_with fail
  refine H.out.mono ?_
  intro e w1 hd
  obtain rfl := HR.out _ _ hd
  have H2 := Lib.hid (HO.out _ _ hd)
  clear hd H HO HR
  go_wp2_with fail
  refine H2.out.mono ?_
  rintro e w2 ⟨A, c, ys, ok, rfl, h1, h2, h3⟩
  have HQ := Lib.hid (And.intro h1 (And.intro h2 h3))
  clear h1 h2 h3 H2
  go_wp2_with fail
  go_ret2
  exact ⟨A, c, ys, ok, rfl, HQ.out⟩



end Go.Proofs.Ytndnglpehghmeaa
