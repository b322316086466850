/- Steps of the reference that write numbers: contracts. -/
import Derived.Test.YtlpmjahhdbcfiaaZ13
/-! ### Steps of the reference that write numbers: contracts. -/
namespace Go.Proofs.Ytlpmjahhdbcfiaa
open Go.RowKit
set_option linter.unusedVariables false

set_option maxRecDepth 100000 in
set_option maxHeartbeats 1000000 in
theorem sstep0 (n t : Int) (d o : List Int) (kids : Its) (Ad : Option Addr) (cd : Nat) (Ao : Option Addr) (co : Nat) (Ak : Option Addr) (ck : Nat) (w : World) (base b : Nat) (r : Value) (s : St) (B : Nat) (g : SGood w base b r s B) (hi : ItemRd w B n t d o kids Ad Ao Ak) (hl : s.out.length + (24 + d.length + 5 * o.length + wt kids) ≤ 4000000) :
    Calls Try.prog 28 #[.pointer (some ⟨b, 0, none⟩), itemV 0 n t d o kids Ad cd Ao co Ak ck] w (SpecP w base b r (sWr (bigB n 1) s)) := by
  have hmod : bigB (n % 18446744073709551616) 1 = bigB n 1 := by simp [bigB] <;> omega
  have g1 := g.grow ((Only.refl _ _).alloc (.cells #[.int .i64 0, .int .i64 n, .int .i64 t, .slice Ad d.length cd, .slice Ao o.length co, .slice Ak kids.len ck] 37))
  have HB := Lib.hid (fun W => big_any (n % 18446744073709551616) 1 W (by omega) (by omega) (by decide))
  rw [hmod] at HB
  have HE := Lib.hid (fun W w1 A2 c2 (hW : Only [] (w.alloc (.cells #[.int .i64 0, .int .i64 n, .int .i64 t, .slice Ad d.length cd, .slice Ao o.length co, .slice Ak kids.len ck] 37)) W) (hk : Only [] W w1) (hown : w1.ownsRow W.heap.size 5 1 (.slice A2 (bigB n 1).length c2) (bigB n 1).length ((bigB n 1).map (Value.int .u8))) => by
    have ho := (((Only.refl _ _).alloc (.cells #[.int .i64 0, .int .i64 n, .int .i64 t, .slice Ad d.length cd, .slice Ao o.length co, .slice Ak kids.len ck] 37)).trans hW).trans hk
    exact Calls.mono (swrite_any b r s A2 _ c2 (bigB n 1) w1 base B _ (g.grow ho) (Rd.of_own (bigB_byt _ _) hown) rfl (by rw [bigB_len]; omega)) (fun e w' h => (⟨SpecP.trans h (ho.more (by simp)) (OwnLe.refl _ _), h.2.1⟩ : SpecP w base b r (sWr (bigB n 1) s) e w' ∧ Only (b :: own r) w1 w')))
  have hu : IntKind.u64.wrap n = n % 18446744073709551616 := by simp [IntKind.wrap, IntKind.bits, IntKind.signed]
  clear g hi hl g1 hmod
  unfold itemV
  go_enter Try.func28, Try.ntmps28
  go_wp2_with fail
  have hcx : (w.alloc (.cells #[.int .i64 0, .int .i64 n, .int .i64 t, .slice Ad d.length cd, .slice Ao o.length co, .slice Ak kids.len ck] 37)).cell? ⟨w.heap.size, 0, none⟩ = some (.int .i64 0) := cell_of_row (w.alloc (.cells #[.int .i64 0, .int .i64 n, .int .i64 t, .slice Ad d.length cd, .slice Ao o.length co, .slice Ak kids.len ck] 37)) w.heap.size 0 _ _ _ (heap_alloc_new w (.cells #[.int .i64 0, .int .i64 n, .int .i64 t, .slice Ad d.length cd, .slice Ao o.length co, .slice Ak kids.len ck] 37))
  have hcy : (w.alloc (.cells #[.int .i64 0, .int .i64 n, .int .i64 t, .slice Ad d.length cd, .slice Ao o.length co, .slice Ak kids.len ck] 37)).cell? ⟨w.heap.size, 1, none⟩ = some (.int .i64 n) := cell_of_row (w.alloc (.cells #[.int .i64 0, .int .i64 n, .int .i64 t, .slice Ad d.length cd, .slice Ao o.length co, .slice Ak kids.len ck] 37)) w.heap.size 1 _ _ _ (heap_alloc_new w (.cells #[.int .i64 0, .int .i64 n, .int .i64 t, .slice Ad d.length cd, .slice Ao o.length co, .slice Ak kids.len ck] 37))
  go_region_with (first | (go_at_call 35; refine (HB.out _).mono ?_; rintro e w1 ⟨A2, c2, rfl, hc, hm, hown, hk⟩; have H2 := Lib.hid (HE.out _ w1 A2 c2 (by first | exact (Only.refl _ _).alloc _ | exact ((Only.refl _ _).drew).alloc _ | exact ((Only.refl _ _).alloc _).drew) hk hown); clear hc hm hown hk) | (go_at_call 34; refine H2.out.mono ?_; intro e w2 h; obtain rfl : e = .returned (.tuple #[]) := h.1.1; have HQ := Lib.hid h.1; clear h))
  all_goals
    go_wp2_with fail
    go_end0
    exact HQ.out

set_option maxRecDepth 100000 in
set_option maxHeartbeats 1000000 in
theorem sstep1 (n t : Int) (d o : List Int) (kids : Its) (Ad : Option Addr) (cd : Nat) (Ao : Option Addr) (co : Nat) (Ak : Option Addr) (ck : Nat) (w : World) (base b : Nat) (r : Value) (s : St) (B : Nat) (g : SGood w base b r s B) (hi : ItemRd w B n t d o kids Ad Ao Ak) (hl : s.out.length + (24 + d.length + 5 * o.length + wt kids) ≤ 4000000) :
    Calls Try.prog 28 #[.pointer (some ⟨b, 0, none⟩), itemV 1 n t d o kids Ad cd Ao co Ak ck] w (SpecP w base b r (sWr (bigB n 2) s)) := by
  have hmod : bigB (n % 18446744073709551616) 2 = bigB n 2 := by simp [bigB] <;> omega
  have g1 := g.grow ((Only.refl _ _).alloc (.cells #[.int .i64 1, .int .i64 n, .int .i64 t, .slice Ad d.length cd, .slice Ao o.length co, .slice Ak kids.len ck] 37))
  have HB := Lib.hid (fun W => big_any (n % 18446744073709551616) 2 W (by omega) (by omega) (by decide))
  rw [hmod] at HB
  have HE := Lib.hid (fun W w1 A2 c2 (hW : Only [] (w.alloc (.cells #[.int .i64 1, .int .i64 n, .int .i64 t, .slice Ad d.length cd, .slice Ao o.length co, .slice Ak kids.len ck] 37)) W) (hk : Only [] W w1) (hown : w1.ownsRow W.heap.size 5 1 (.slice A2 (bigB n 2).length c2) (bigB n 2).length ((bigB n 2).map (Value.int .u8))) => by
    have ho := (((Only.refl _ _).alloc (.cells #[.int .i64 1, .int .i64 n, .int .i64 t, .slice Ad d.length cd, .slice Ao o.length co, .slice Ak kids.len ck] 37)).trans hW).trans hk
    exact Calls.mono (swrite_any b r s A2 _ c2 (bigB n 2) w1 base B _ (g.grow ho) (Rd.of_own (bigB_byt _ _) hown) rfl (by rw [bigB_len]; omega)) (fun e w' h => (⟨SpecP.trans h (ho.more (by simp)) (OwnLe.refl _ _), h.2.1⟩ : SpecP w base b r (sWr (bigB n 2) s) e w' ∧ Only (b :: own r) w1 w')))
  have hu : IntKind.u64.wrap n = n % 18446744073709551616 := by simp [IntKind.wrap, IntKind.bits, IntKind.signed]
  clear g hi hl g1 hmod
  unfold itemV
  go_enter Try.func28, Try.ntmps28
  go_wp2_with fail
  have hcx : (w.alloc (.cells #[.int .i64 1, .int .i64 n, .int .i64 t, .slice Ad d.length cd, .slice Ao o.length co, .slice Ak kids.len ck] 37)).cell? ⟨w.heap.size, 0, none⟩ = some (.int .i64 1) := cell_of_row (w.alloc (.cells #[.int .i64 1, .int .i64 n, .int .i64 t, .slice Ad d.length cd, .slice Ao o.length co, .slice Ak kids.len ck] 37)) w.heap.size 0 _ _ _ (heap_alloc_new w (.cells #[.int .i64 1, .int .i64 n, .int .i64 t, .slice Ad d.length cd, .slice Ao o.length co, .slice Ak kids.len ck] 37))
  have hcy : (w.alloc (.cells #[.int .i64 1, .int .i64 n, .int .i64 t, .slice Ad d.length cd, .slice Ao o.length co, .slice Ak kids.len ck] 37)).cell? ⟨w.heap.size, 1, none⟩ = some (.int .i64 n) := cell_of_row (w.alloc (.cells #[.int .i64 1, .int .i64 n, .int .i64 t, .slice Ad d.length cd, .slice Ao o.length co, .slice Ak kids.len ck] 37)) w.heap.size 1 _ _ _ (heap_alloc_new w (.cells #[.int .i64 1, .int .i64 n, .int .i64 t, .slice Ad d.length cd, .slice Ao o.length co, .slice Ak kids.len ck] 37))
  go_region_with (first | (go_at_call 35; refine (HB.out _).mono ?_; rintro e w1 ⟨A2, c2, rfl, hc, hm, hown, hk⟩; have H2 := Lib.hid (HE.out _ w1 A2 c2 (by first | exact (Only.refl _ _).alloc _ | exact ((Only.refl _ _).drew).alloc _ | exact ((Only.refl _ _).alloc _).drew) hk hown); clear hc hm hown hk) | (go_at_call 34; refine H2.out.mono ?_; intro e w2 h; obtain rfl : e = .returned (.tuple #[]) := h.1.1; have HQ := Lib.hid h.1; clear h))
  all_goals
    go_wp2_with fail
    go_end0
    exact HQ.out

end Go.Proofs.Ytlpmjahhdbcfiaa
