/- Steps of the reference with steps within: contracts. -/
import Derived.Test.YtlpmjahhdbcfiaaZ12
/-! ### Steps of the reference with steps within: contracts. -/
namespace Go.Proofs.Ytlpmjahhdbcfiaa
open Go.RowKit
set_option linter.unusedVariables false

theorem SGood.new {w : World} {base b : Nat} {r : Value} {s : St} {B : Nat} (g : SGood w base b r s B) : w.heap.size ∉ b :: own r := by
  have h1 := g.sb.lt
  intro hm
  rcases List.mem_cons.1 hm with h | h
  · omega
  · rcases g.row.2.2 with ⟨e, _⟩ | ⟨q, cap, cur, e, _, hg, _⟩
    · rw [e] at h; simp [own, Value.ownBlock] at h
    · rw [e] at h
      simp only [own, Value.ownBlock, Option.toList_some, List.mem_singleton] at h
      have := lt_of_block hg
      omega
/-- Behind steps within the builder is as good. -/
theorem WithP.good {w W w1 : World} {base b : Nat} {r : Value} {s inn : St} {B : Nat} (g : SGood w base b r s B) (ho : Only [] w W) (ho1 : Only [b] W w1) (hsb : SbAt w1 b r (sIn inn s)) (hrow : Row w1 base r s.out) : SGood w1 base b r (sIn inn s) B ∧ Only (b :: own r) w w1 := by
  have h : w.heap.size ≤ w1.heap.size := Nat.le_trans ho.size ho1.size
  exact ⟨⟨hsb, hrow, Nat.le_trans g.base h, g.dir, g.low, Nat.le_trans g.hB h⟩, (ho.more (by simp)).trans (ho1.more (by intro k hk _; simp only [List.mem_singleton] at hk; simp [hk]))⟩

set_option maxRecDepth 100000 in
set_option maxHeartbeats 1000000 in
theorem sstep11 (n t : Int) (d o : List Int) (kids : Its) (Ad : Option Addr) (cd : Nat) (Ao : Option Addr) (co : Nat) (Ak : Option Addr) (ck : Nat) (w : World) (base b : Nat) (r : Value) (s : St) (B : Nat) (g : SGood w base b r s B) (hi : ItemRd w B n t d o kids Ad Ao Ak) (hl : s.out.length + (24 + d.length + 5 * o.length + wt kids) ≤ 4000000) (hk : RunOK kids) (ins : Bool) (hok : Ok kids ins) (hrg : Rng kids) (ht : 0 ≤ t ∧ t ≤ 255) :
    Calls Try.prog 28 #[.pointer (some ⟨b, 0, none⟩), itemV 11 n t d o kids Ad cd Ao co Ak ck] w (SpecP w base b r (sElem t (sRun kids St.nil).out (sIn (sRun kids St.nil) s))) := by
  have g1 := g.grow ((Only.refl _ _).alloc (.cells #[.int .i64 11, .int .i64 n, .int .i64 t, .slice Ad d.length cd, .slice Ao o.length co, .slice Ak kids.len ck] 37))
  have i1 := hi.alloc g.hB (.cells #[.int .i64 11, .int .i64 n, .int .i64 t, .slice Ad d.length cd, .slice Ao o.length co, .slice Ak kids.len ck] 37)
  have hle := srun_le kids ins St.nil hrg hok
  obtain ⟨inn, hinn⟩ : ∃ inn, sRun kids St.nil = inn := ⟨_, rfl⟩
  have HWI := Lib.hid (fun W (hW : Only [] (w.alloc (.cells #[.int .i64 11, .int .i64 n, .int .i64 t, .slice Ad d.length cd, .slice Ao o.length co, .slice Ak kids.len ck] 37)) W) => within_ok kids hk ins b r s W base B Ak kids.len ck (g1.grow hW) (i1.rk.only hW (by simp) g1.hB) rfl hok hrg (by omega))
  rw [hinn] at HWI hle ⊢
  have hlen : inn.out.length ≤ wt kids := by simpa [St.nil] using hle
  have HE := Lib.hid (fun W w1 A2 c2 (hW : Only [] (w.alloc (.cells #[.int .i64 11, .int .i64 n, .int .i64 t, .slice Ad d.length cd, .slice Ao o.length co, .slice Ak kids.len ck] 37)) W) (ho1 : Only [b] W w1) (hsb : SbAt w1 b r (sIn inn s)) (hrow : Row w1 base r s.out) (hrd : Rd w1 w1.heap.size A2 inn.out) => by
    have hg := WithP.good g (((Only.refl _ _).alloc _).trans hW) ho1 hsb hrow
    exact Calls.mono (selem_any b r (sIn inn s) t A2 _ c2 inn.out w1 base B _ hg.1 hrd (Nat.le_refl _) rfl ht (by show s.out.length + _ ≤ _; omega)) (fun e w' h => (⟨SpecP.trans h hg.2 (OwnLe.refl _ _), h.2.1⟩ : SpecP w base b r (sElem t inn.out (sIn inn s)) e w' ∧ Only (b :: own r) w1 w')))
  have HNW := Lib.hid g.new
  have HNB : Hid (w.heap.size ∉ [b]) := Lib.hid (by have := g.sb.lt; intro hm; rw [List.mem_singleton] at hm; omega)
  have hcx : (w.alloc (.cells #[.int .i64 11, .int .i64 n, .int .i64 t, .slice Ad d.length cd, .slice Ao o.length co, .slice Ak kids.len ck] 37)).cell? ⟨w.heap.size, 2, none⟩ = some (.int .i64 t) := cell_of_row (w.alloc (.cells #[.int .i64 11, .int .i64 n, .int .i64 t, .slice Ad d.length cd, .slice Ao o.length co, .slice Ak kids.len ck] 37)) w.heap.size 2 _ _ _ (heap_alloc_new w (.cells #[.int .i64 11, .int .i64 n, .int .i64 t, .slice Ad d.length cd, .slice Ao o.length co, .slice Ak kids.len ck] 37))
  have hcy : (w.alloc (.cells #[.int .i64 11, .int .i64 n, .int .i64 t, .slice Ad d.length cd, .slice Ao o.length co, .slice Ak kids.len ck] 37)).cell? ⟨w.heap.size, 5, none⟩ = some (.slice Ak kids.len ck) := cell_of_row (w.alloc (.cells #[.int .i64 11, .int .i64 n, .int .i64 t, .slice Ad d.length cd, .slice Ao o.length co, .slice Ak kids.len ck] 37)) w.heap.size 5 _ _ _ (heap_alloc_new w (.cells #[.int .i64 11, .int .i64 n, .int .i64 t, .slice Ad d.length cd, .slice Ao o.length co, .slice Ak kids.len ck] 37))
  have HLT : Hid (w.heap.size < (w.alloc (.cells #[.int .i64 11, .int .i64 n, .int .i64 t, .slice Ad d.length cd, .slice Ao o.length co, .slice Ak kids.len ck] 37)).heap.size) := Lib.hid (by simp)
  clear g hi hl hk hok hrg ht g1 i1 hle hlen hinn
  unfold itemV
  go_enter Try.func28, Try.ntmps28
  go_wp2_with fail
  go_region_held3 (fun w' => w'.cell? ⟨w.heap.size, 2, none⟩ = some (.int .i64 t) ∧ w'.cell? ⟨w.heap.size, 5, none⟩ = some (.slice Ak kids.len ck)) (first | exact ⟨hcx2, hcy2⟩ | exact ⟨hcx1, hcy1⟩ | exact ⟨hcx, hcy⟩) ((first | (go_at_call 37; refine (HWI.out _ (by first | exact (Only.refl _ _).drew | exact Only.refl _ _)).mono ?_; rintro e w1 ⟨A2, c2, rfl, hrd, ho1, hsb, hrow⟩; have hcx1 := (ho1.cell (p := ⟨w.heap.size, 2, none⟩) HLT.out HNB.out).trans hcx; have hcy1 := (ho1.cell (p := ⟨w.heap.size, 5, none⟩) HLT.out HNB.out).trans hcy; have HO1 := Lib.hid ho1; have H2 := Lib.hid (HE.out _ w1 A2 c2 (by first | exact (Only.refl _ _).drew | exact Only.refl _ _) ho1 hsb hrow hrd); clear hrd ho1 hsb hrow) | (go_at_call 38; refine H2.out.mono ?_; intro e w2 h; obtain rfl : e = .returned (.tuple #[]) := h.1.1; have hcx2 := (h.2.cell (p := ⟨w.heap.size, 2, none⟩) (Nat.lt_of_lt_of_le HLT.out HO1.out.size) HNW.out).trans hcx1; have hcy2 := (h.2.cell (p := ⟨w.heap.size, 5, none⟩) (Nat.lt_of_lt_of_le HLT.out HO1.out.size) HNW.out).trans hcy1; have HQ := Lib.hid h.1; clear h)))
  all_goals
    go_wp2_with fail
    go_end0
    exact HQ.out

set_option maxRecDepth 100000 in
set_option maxHeartbeats 1000000 in
theorem sstep7 (n t : Int) (d o : List Int) (kids : Its) (Ad : Option Addr) (cd : Nat) (Ao : Option Addr) (co : Nat) (Ak : Option Addr) (ck : Nat) (w : World) (base b : Nat) (r : Value) (s : St) (B : Nat) (g : SGood w base b r s B) (hi : ItemRd w B n t d o kids Ad Ao Ak) (hl : s.out.length + (24 + d.length + 5 * o.length + wt kids) ≤ 4000000) (hk : RunOK kids) (ins : Bool) (hok : Ok kids ins) (hrg : Rng kids) :
    Calls Try.prog 28 #[.pointer (some ⟨b, 0, none⟩), itemV 7 n t d o kids Ad cd Ao co Ak ck] w (SpecP w base b r (sPre 1 (sRun kids St.nil).out (sIn (sRun kids St.nil) s))) := by
  have g1 := g.grow ((Only.refl _ _).alloc (.cells #[.int .i64 7, .int .i64 n, .int .i64 t, .slice Ad d.length cd, .slice Ao o.length co, .slice Ak kids.len ck] 37))
  have i1 := hi.alloc g.hB (.cells #[.int .i64 7, .int .i64 n, .int .i64 t, .slice Ad d.length cd, .slice Ao o.length co, .slice Ak kids.len ck] 37)
  have hle := srun_le kids ins St.nil hrg hok
  obtain ⟨inn, hinn⟩ : ∃ inn, sRun kids St.nil = inn := ⟨_, rfl⟩
  have HWI := Lib.hid (fun W (hW : Only [] (w.alloc (.cells #[.int .i64 7, .int .i64 n, .int .i64 t, .slice Ad d.length cd, .slice Ao o.length co, .slice Ak kids.len ck] 37)) W) => within_ok kids hk ins b r s W base B Ak kids.len ck (g1.grow hW) (i1.rk.only hW (by simp) g1.hB) rfl hok hrg (by omega))
  rw [hinn] at HWI hle ⊢
  have hlen : inn.out.length ≤ wt kids := by simpa [St.nil] using hle
  have HE := Lib.hid (fun W w1 A2 c2 (hW : Only [] (w.alloc (.cells #[.int .i64 7, .int .i64 n, .int .i64 t, .slice Ad d.length cd, .slice Ao o.length co, .slice Ak kids.len ck] 37)) W) (ho1 : Only [b] W w1) (hsb : SbAt w1 b r (sIn inn s)) (hrow : Row w1 base r s.out) (hrd : Rd w1 w1.heap.size A2 inn.out) => by
    have hg := WithP.good g (((Only.refl _ _).alloc _).trans hW) ho1 hsb hrow
    exact Calls.mono (spre_any1 b r (sIn inn s) A2 _ c2 inn.out w1 base B _ hg.1 hrd (Nat.le_refl _) rfl (by show s.out.length + _ ≤ _; omega)) (fun e w' h => (⟨SpecP.trans h hg.2 (OwnLe.refl _ _), h.2.1⟩ : SpecP w base b r (sPre 1 inn.out (sIn inn s)) e w' ∧ Only (b :: own r) w1 w')))
  have HNW := Lib.hid g.new
  have HNB : Hid (w.heap.size ∉ [b]) := Lib.hid (by have := g.sb.lt; intro hm; rw [List.mem_singleton] at hm; omega)
  have hcx : (w.alloc (.cells #[.int .i64 7, .int .i64 n, .int .i64 t, .slice Ad d.length cd, .slice Ao o.length co, .slice Ak kids.len ck] 37)).cell? ⟨w.heap.size, 0, none⟩ = some (.int .i64 7) := cell_of_row (w.alloc (.cells #[.int .i64 7, .int .i64 n, .int .i64 t, .slice Ad d.length cd, .slice Ao o.length co, .slice Ak kids.len ck] 37)) w.heap.size 0 _ _ _ (heap_alloc_new w (.cells #[.int .i64 7, .int .i64 n, .int .i64 t, .slice Ad d.length cd, .slice Ao o.length co, .slice Ak kids.len ck] 37))
  have hcy : (w.alloc (.cells #[.int .i64 7, .int .i64 n, .int .i64 t, .slice Ad d.length cd, .slice Ao o.length co, .slice Ak kids.len ck] 37)).cell? ⟨w.heap.size, 5, none⟩ = some (.slice Ak kids.len ck) := cell_of_row (w.alloc (.cells #[.int .i64 7, .int .i64 n, .int .i64 t, .slice Ad d.length cd, .slice Ao o.length co, .slice Ak kids.len ck] 37)) w.heap.size 5 _ _ _ (heap_alloc_new w (.cells #[.int .i64 7, .int .i64 n, .int .i64 t, .slice Ad d.length cd, .slice Ao o.length co, .slice Ak kids.len ck] 37))
  have HLT : Hid (w.heap.size < (w.alloc (.cells #[.int .i64 7, .int .i64 n, .int .i64 t, .slice Ad d.length cd, .slice Ao o.length co, .slice Ak kids.len ck] 37)).heap.size) := Lib.hid (by simp)
  clear g hi hl hk hok hrg g1 i1 hle hlen hinn
  unfold itemV
  go_enter Try.func28, Try.ntmps28
  go_wp2_with fail
  go_region_held3 (fun w' => w'.cell? ⟨w.heap.size, 0, none⟩ = some (.int .i64 7) ∧ w'.cell? ⟨w.heap.size, 5, none⟩ = some (.slice Ak kids.len ck)) (first | exact ⟨hcx2, hcy2⟩ | exact ⟨hcx1, hcy1⟩ | exact ⟨hcx, hcy⟩) ((first | (go_at_call 37; refine (HWI.out _ (by first | exact (Only.refl _ _).drew | exact Only.refl _ _)).mono ?_; rintro e w1 ⟨A2, c2, rfl, hrd, ho1, hsb, hrow⟩; have hcx1 := (ho1.cell (p := ⟨w.heap.size, 0, none⟩) HLT.out HNB.out).trans hcx; have hcy1 := (ho1.cell (p := ⟨w.heap.size, 5, none⟩) HLT.out HNB.out).trans hcy; have HO1 := Lib.hid ho1; have H2 := Lib.hid (HE.out _ w1 A2 c2 (by first | exact (Only.refl _ _).drew | exact Only.refl _ _) ho1 hsb hrow hrd); clear hrd ho1 hsb hrow) | (go_at_call 36; refine H2.out.mono ?_; intro e w2 h; obtain rfl : e = .returned (.tuple #[]) := h.1.1; have hcx2 := (h.2.cell (p := ⟨w.heap.size, 0, none⟩) (Nat.lt_of_lt_of_le HLT.out HO1.out.size) HNW.out).trans hcx1; have hcy2 := (h.2.cell (p := ⟨w.heap.size, 5, none⟩) (Nat.lt_of_lt_of_le HLT.out HO1.out.size) HNW.out).trans hcy1; have HQ := Lib.hid h.1; clear h)))
  all_goals
    go_wp2_with fail
    go_end0
    exact HQ.out

set_option maxRecDepth 100000 in
set_option maxHeartbeats 1000000 in
theorem sstep8 (n t : Int) (d o : List Int) (kids : Its) (Ad : Option Addr) (cd : Nat) (Ao : Option Addr) (co : Nat) (Ak : Option Addr) (ck : Nat) (w : World) (base b : Nat) (r : Value) (s : St) (B : Nat) (g : SGood w base b r s B) (hi : ItemRd w B n t d o kids Ad Ao Ak) (hl : s.out.length + (24 + d.length + 5 * o.length + wt kids) ≤ 4000000) (hk : RunOK kids) (ins : Bool) (hok : Ok kids ins) (hrg : Rng kids) :
    Calls Try.prog 28 #[.pointer (some ⟨b, 0, none⟩), itemV 8 n t d o kids Ad cd Ao co Ak ck] w (SpecP w base b r (sPre 2 (sRun kids St.nil).out (sIn (sRun kids St.nil) s))) := by
  have g1 := g.grow ((Only.refl _ _).alloc (.cells #[.int .i64 8, .int .i64 n, .int .i64 t, .slice Ad d.length cd, .slice Ao o.length co, .slice Ak kids.len ck] 37))
  have i1 := hi.alloc g.hB (.cells #[.int .i64 8, .int .i64 n, .int .i64 t, .slice Ad d.length cd, .slice Ao o.length co, .slice Ak kids.len ck] 37)
  have hle := srun_le kids ins St.nil hrg hok
  obtain ⟨inn, hinn⟩ : ∃ inn, sRun kids St.nil = inn := ⟨_, rfl⟩
  have HWI := Lib.hid (fun W (hW : Only [] (w.alloc (.cells #[.int .i64 8, .int .i64 n, .int .i64 t, .slice Ad d.length cd, .slice Ao o.length co, .slice Ak kids.len ck] 37)) W) => within_ok kids hk ins b r s W base B Ak kids.len ck (g1.grow hW) (i1.rk.only hW (by simp) g1.hB) rfl hok hrg (by omega))
  rw [hinn] at HWI hle ⊢
  have hlen : inn.out.length ≤ wt kids := by simpa [St.nil] using hle
  have HE := Lib.hid (fun W w1 A2 c2 (hW : Only [] (w.alloc (.cells #[.int .i64 8, .int .i64 n, .int .i64 t, .slice Ad d.length cd, .slice Ao o.length co, .slice Ak kids.len ck] 37)) W) (ho1 : Only [b] W w1) (hsb : SbAt w1 b r (sIn inn s)) (hrow : Row w1 base r s.out) (hrd : Rd w1 w1.heap.size A2 inn.out) => by
    have hg := WithP.good g (((Only.refl _ _).alloc _).trans hW) ho1 hsb hrow
    exact Calls.mono (spre_any2 b r (sIn inn s) A2 _ c2 inn.out w1 base B _ hg.1 hrd (Nat.le_refl _) rfl (by show s.out.length + _ ≤ _; omega)) (fun e w' h => (⟨SpecP.trans h hg.2 (OwnLe.refl _ _), h.2.1⟩ : SpecP w base b r (sPre 2 inn.out (sIn inn s)) e w' ∧ Only (b :: own r) w1 w')))
  have HNW := Lib.hid g.new
  have HNB : Hid (w.heap.size ∉ [b]) := Lib.hid (by have := g.sb.lt; intro hm; rw [List.mem_singleton] at hm; omega)
  have hcx : (w.alloc (.cells #[.int .i64 8, .int .i64 n, .int .i64 t, .slice Ad d.length cd, .slice Ao o.length co, .slice Ak kids.len ck] 37)).cell? ⟨w.heap.size, 0, none⟩ = some (.int .i64 8) := cell_of_row (w.alloc (.cells #[.int .i64 8, .int .i64 n, .int .i64 t, .slice Ad d.length cd, .slice Ao o.length co, .slice Ak kids.len ck] 37)) w.heap.size 0 _ _ _ (heap_alloc_new w (.cells #[.int .i64 8, .int .i64 n, .int .i64 t, .slice Ad d.length cd, .slice Ao o.length co, .slice Ak kids.len ck] 37))
  have hcy : (w.alloc (.cells #[.int .i64 8, .int .i64 n, .int .i64 t, .slice Ad d.length cd, .slice Ao o.length co, .slice Ak kids.len ck] 37)).cell? ⟨w.heap.size, 5, none⟩ = some (.slice Ak kids.len ck) := cell_of_row (w.alloc (.cells #[.int .i64 8, .int .i64 n, .int .i64 t, .slice Ad d.length cd, .slice Ao o.length co, .slice Ak kids.len ck] 37)) w.heap.size 5 _ _ _ (heap_alloc_new w (.cells #[.int .i64 8, .int .i64 n, .int .i64 t, .slice Ad d.length cd, .slice Ao o.length co, .slice Ak kids.len ck] 37))
  have HLT : Hid (w.heap.size < (w.alloc (.cells #[.int .i64 8, .int .i64 n, .int .i64 t, .slice Ad d.length cd, .slice Ao o.length co, .slice Ak kids.len ck] 37)).heap.size) := Lib.hid (by simp)
  clear g hi hl hk hok hrg g1 i1 hle hlen hinn
  unfold itemV
  go_enter Try.func28, Try.ntmps28
  go_wp2_with fail
  go_region_held3 (fun w' => w'.cell? ⟨w.heap.size, 0, none⟩ = some (.int .i64 8) ∧ w'.cell? ⟨w.heap.size, 5, none⟩ = some (.slice Ak kids.len ck)) (first | exact ⟨hcx2, hcy2⟩ | exact ⟨hcx1, hcy1⟩ | exact ⟨hcx, hcy⟩) ((first | (go_at_call 37; refine (HWI.out _ (by first | exact (Only.refl _ _).drew | exact Only.refl _ _)).mono ?_; rintro e w1 ⟨A2, c2, rfl, hrd, ho1, hsb, hrow⟩; have hcx1 := (ho1.cell (p := ⟨w.heap.size, 0, none⟩) HLT.out HNB.out).trans hcx; have hcy1 := (ho1.cell (p := ⟨w.heap.size, 5, none⟩) HLT.out HNB.out).trans hcy; have HO1 := Lib.hid ho1; have H2 := Lib.hid (HE.out _ w1 A2 c2 (by first | exact (Only.refl _ _).drew | exact Only.refl _ _) ho1 hsb hrow hrd); clear hrd ho1 hsb hrow) | (go_at_call 36; refine H2.out.mono ?_; intro e w2 h; obtain rfl : e = .returned (.tuple #[]) := h.1.1; have hcx2 := (h.2.cell (p := ⟨w.heap.size, 0, none⟩) (Nat.lt_of_lt_of_le HLT.out HO1.out.size) HNW.out).trans hcx1; have hcy2 := (h.2.cell (p := ⟨w.heap.size, 5, none⟩) (Nat.lt_of_lt_of_le HLT.out HO1.out.size) HNW.out).trans hcy1; have HQ := Lib.hid h.1; clear h)))
  all_goals
    go_wp2_with fail
    go_end0
    exact HQ.out

set_option maxRecDepth 100000 in
set_option maxHeartbeats 1000000 in
theorem sstep9 (n t : Int) (d o : List Int) (kids : Its) (Ad : Option Addr) (cd : Nat) (Ao : Option Addr) (co : Nat) (Ak : Option Addr) (ck : Nat) (w : World) (base b : Nat) (r : Value) (s : St) (B : Nat) (g : SGood w base b r s B) (hi : ItemRd w B n t d o kids Ad Ao Ak) (hl : s.out.length + (24 + d.length + 5 * o.length + wt kids) ≤ 4000000) (hk : RunOK kids) (ins : Bool) (hok : Ok kids ins) (hrg : Rng kids) :
    Calls Try.prog 28 #[.pointer (some ⟨b, 0, none⟩), itemV 9 n t d o kids Ad cd Ao co Ak ck] w (SpecP w base b r (sPre 3 (sRun kids St.nil).out (sIn (sRun kids St.nil) s))) := by
  have g1 := g.grow ((Only.refl _ _).alloc (.cells #[.int .i64 9, .int .i64 n, .int .i64 t, .slice Ad d.length cd, .slice Ao o.length co, .slice Ak kids.len ck] 37))
  have i1 := hi.alloc g.hB (.cells #[.int .i64 9, .int .i64 n, .int .i64 t, .slice Ad d.length cd, .slice Ao o.length co, .slice Ak kids.len ck] 37)
  have hle := srun_le kids ins St.nil hrg hok
  obtain ⟨inn, hinn⟩ : ∃ inn, sRun kids St.nil = inn := ⟨_, rfl⟩
  have HWI := Lib.hid (fun W (hW : Only [] (w.alloc (.cells #[.int .i64 9, .int .i64 n, .int .i64 t, .slice Ad d.length cd, .slice Ao o.length co, .slice Ak kids.len ck] 37)) W) => within_ok kids hk ins b r s W base B Ak kids.len ck (g1.grow hW) (i1.rk.only hW (by simp) g1.hB) rfl hok hrg (by omega))
  rw [hinn] at HWI hle ⊢
  have hlen : inn.out.length ≤ wt kids := by simpa [St.nil] using hle
  have HE := Lib.hid (fun W w1 A2 c2 (hW : Only [] (w.alloc (.cells #[.int .i64 9, .int .i64 n, .int .i64 t, .slice Ad d.length cd, .slice Ao o.length co, .slice Ak kids.len ck] 37)) W) (ho1 : Only [b] W w1) (hsb : SbAt w1 b r (sIn inn s)) (hrow : Row w1 base r s.out) (hrd : Rd w1 w1.heap.size A2 inn.out) => by
    have hg := WithP.good g (((Only.refl _ _).alloc _).trans hW) ho1 hsb hrow
    exact Calls.mono (spre_any3 b r (sIn inn s) A2 _ c2 inn.out w1 base B _ hg.1 hrd (Nat.le_refl _) rfl (by show s.out.length + _ ≤ _; omega)) (fun e w' h => (⟨SpecP.trans h hg.2 (OwnLe.refl _ _), h.2.1⟩ : SpecP w base b r (sPre 3 inn.out (sIn inn s)) e w' ∧ Only (b :: own r) w1 w')))
  have HNW := Lib.hid g.new
  have HNB : Hid (w.heap.size ∉ [b]) := Lib.hid (by have := g.sb.lt; intro hm; rw [List.mem_singleton] at hm; omega)
  have hcx : (w.alloc (.cells #[.int .i64 9, .int .i64 n, .int .i64 t, .slice Ad d.length cd, .slice Ao o.length co, .slice Ak kids.len ck] 37)).cell? ⟨w.heap.size, 0, none⟩ = some (.int .i64 9) := cell_of_row (w.alloc (.cells #[.int .i64 9, .int .i64 n, .int .i64 t, .slice Ad d.length cd, .slice Ao o.length co, .slice Ak kids.len ck] 37)) w.heap.size 0 _ _ _ (heap_alloc_new w (.cells #[.int .i64 9, .int .i64 n, .int .i64 t, .slice Ad d.length cd, .slice Ao o.length co, .slice Ak kids.len ck] 37))
  have hcy : (w.alloc (.cells #[.int .i64 9, .int .i64 n, .int .i64 t, .slice Ad d.length cd, .slice Ao o.length co, .slice Ak kids.len ck] 37)).cell? ⟨w.heap.size, 5, none⟩ = some (.slice Ak kids.len ck) := cell_of_row (w.alloc (.cells #[.int .i64 9, .int .i64 n, .int .i64 t, .slice Ad d.length cd, .slice Ao o.length co, .slice Ak kids.len ck] 37)) w.heap.size 5 _ _ _ (heap_alloc_new w (.cells #[.int .i64 9, .int .i64 n, .int .i64 t, .slice Ad d.length cd, .slice Ao o.length co, .slice Ak kids.len ck] 37))
  have HLT : Hid (w.heap.size < (w.alloc (.cells #[.int .i64 9, .int .i64 n, .int .i64 t, .slice Ad d.length cd, .slice Ao o.length co, .slice Ak kids.len ck] 37)).heap.size) := Lib.hid (by simp)
  clear g hi hl hk hok hrg g1 i1 hle hlen hinn
  unfold itemV
  go_enter Try.func28, Try.ntmps28
  go_wp2_with fail
  go_region_held3 (fun w' => w'.cell? ⟨w.heap.size, 0, none⟩ = some (.int .i64 9) ∧ w'.cell? ⟨w.heap.size, 5, none⟩ = some (.slice Ak kids.len ck)) (first | exact ⟨hcx2, hcy2⟩ | exact ⟨hcx1, hcy1⟩ | exact ⟨hcx, hcy⟩) ((first | (go_at_call 37; refine (HWI.out _ (by first | exact (Only.refl _ _).drew | exact Only.refl _ _)).mono ?_; rintro e w1 ⟨A2, c2, rfl, hrd, ho1, hsb, hrow⟩; have hcx1 := (ho1.cell (p := ⟨w.heap.size, 0, none⟩) HLT.out HNB.out).trans hcx; have hcy1 := (ho1.cell (p := ⟨w.heap.size, 5, none⟩) HLT.out HNB.out).trans hcy; have HO1 := Lib.hid ho1; have H2 := Lib.hid (HE.out _ w1 A2 c2 (by first | exact (Only.refl _ _).drew | exact Only.refl _ _) ho1 hsb hrow hrd); clear hrd ho1 hsb hrow) | (go_at_call 36; refine H2.out.mono ?_; intro e w2 h; obtain rfl : e = .returned (.tuple #[]) := h.1.1; have hcx2 := (h.2.cell (p := ⟨w.heap.size, 0, none⟩) (Nat.lt_of_lt_of_le HLT.out HO1.out.size) HNW.out).trans hcx1; have hcy2 := (h.2.cell (p := ⟨w.heap.size, 5, none⟩) (Nat.lt_of_lt_of_le HLT.out HO1.out.size) HNW.out).trans hcy1; have HQ := Lib.hid h.1; clear h)))
  all_goals
    go_wp2_with fail
    go_end0
    exact HQ.out

set_option maxRecDepth 100000 in
set_option maxHeartbeats 1000000 in
theorem sstep10 (n t : Int) (d o : List Int) (kids : Its) (Ad : Option Addr) (cd : Nat) (Ao : Option Addr) (co : Nat) (Ak : Option Addr) (ck : Nat) (w : World) (base b : Nat) (r : Value) (s : St) (B : Nat) (g : SGood w base b r s B) (hi : ItemRd w B n t d o kids Ad Ao Ak) (hl : s.out.length + (24 + d.length + 5 * o.length + wt kids) ≤ 4000000) (hk : RunOK kids) (ins : Bool) (hok : Ok kids ins) (hrg : Rng kids) :
    Calls Try.prog 28 #[.pointer (some ⟨b, 0, none⟩), itemV 10 n t d o kids Ad cd Ao co Ak ck] w (SpecP w base b r (sPre 4 (sRun kids St.nil).out (sIn (sRun kids St.nil) s))) := by
  have g1 := g.grow ((Only.refl _ _).alloc (.cells #[.int .i64 10, .int .i64 n, .int .i64 t, .slice Ad d.length cd, .slice Ao o.length co, .slice Ak kids.len ck] 37))
  have i1 := hi.alloc g.hB (.cells #[.int .i64 10, .int .i64 n, .int .i64 t, .slice Ad d.length cd, .slice Ao o.length co, .slice Ak kids.len ck] 37)
  have hle := srun_le kids ins St.nil hrg hok
  obtain ⟨inn, hinn⟩ : ∃ inn, sRun kids St.nil = inn := ⟨_, rfl⟩
  have HWI := Lib.hid (fun W (hW : Only [] (w.alloc (.cells #[.int .i64 10, .int .i64 n, .int .i64 t, .slice Ad d.length cd, .slice Ao o.length co, .slice Ak kids.len ck] 37)) W) => within_ok kids hk ins b r s W base B Ak kids.len ck (g1.grow hW) (i1.rk.only hW (by simp) g1.hB) rfl hok hrg (by omega))
  rw [hinn] at HWI hle ⊢
  have hlen : inn.out.length ≤ wt kids := by simpa [St.nil] using hle
  have HE := Lib.hid (fun W w1 A2 c2 (hW : Only [] (w.alloc (.cells #[.int .i64 10, .int .i64 n, .int .i64 t, .slice Ad d.length cd, .slice Ao o.length co, .slice Ak kids.len ck] 37)) W) (ho1 : Only [b] W w1) (hsb : SbAt w1 b r (sIn inn s)) (hrow : Row w1 base r s.out) (hrd : Rd w1 w1.heap.size A2 inn.out) => by
    have hg := WithP.good g (((Only.refl _ _).alloc _).trans hW) ho1 hsb hrow
    exact Calls.mono (spre_any4 b r (sIn inn s) A2 _ c2 inn.out w1 base B _ hg.1 hrd (Nat.le_refl _) rfl (by show s.out.length + _ ≤ _; omega)) (fun e w' h => (⟨SpecP.trans h hg.2 (OwnLe.refl _ _), h.2.1⟩ : SpecP w base b r (sPre 4 inn.out (sIn inn s)) e w' ∧ Only (b :: own r) w1 w')))
  have HNW := Lib.hid g.new
  have HNB : Hid (w.heap.size ∉ [b]) := Lib.hid (by have := g.sb.lt; intro hm; rw [List.mem_singleton] at hm; omega)
  have hcx : (w.alloc (.cells #[.int .i64 10, .int .i64 n, .int .i64 t, .slice Ad d.length cd, .slice Ao o.length co, .slice Ak kids.len ck] 37)).cell? ⟨w.heap.size, 0, none⟩ = some (.int .i64 10) := cell_of_row (w.alloc (.cells #[.int .i64 10, .int .i64 n, .int .i64 t, .slice Ad d.length cd, .slice Ao o.length co, .slice Ak kids.len ck] 37)) w.heap.size 0 _ _ _ (heap_alloc_new w (.cells #[.int .i64 10, .int .i64 n, .int .i64 t, .slice Ad d.length cd, .slice Ao o.length co, .slice Ak kids.len ck] 37))
  have hcy : (w.alloc (.cells #[.int .i64 10, .int .i64 n, .int .i64 t, .slice Ad d.length cd, .slice Ao o.length co, .slice Ak kids.len ck] 37)).cell? ⟨w.heap.size, 5, none⟩ = some (.slice Ak kids.len ck) := cell_of_row (w.alloc (.cells #[.int .i64 10, .int .i64 n, .int .i64 t, .slice Ad d.length cd, .slice Ao o.length co, .slice Ak kids.len ck] 37)) w.heap.size 5 _ _ _ (heap_alloc_new w (.cells #[.int .i64 10, .int .i64 n, .int .i64 t, .slice Ad d.length cd, .slice Ao o.length co, .slice Ak kids.len ck] 37))
  have HLT : Hid (w.heap.size < (w.alloc (.cells #[.int .i64 10, .int .i64 n, .int .i64 t, .slice Ad d.length cd, .slice Ao o.length co, .slice Ak kids.len ck] 37)).heap.size) := Lib.hid (by simp)
  clear g hi hl hk hok hrg g1 i1 hle hlen hinn
  unfold itemV
  go_enter Try.func28, Try.ntmps28
  go_wp2_with fail
  go_region_held3 (fun w' => w'.cell? ⟨w.heap.size, 0, none⟩ = some (.int .i64 10) ∧ w'.cell? ⟨w.heap.size, 5, none⟩ = some (.slice Ak kids.len ck)) (first | exact ⟨hcx2, hcy2⟩ | exact ⟨hcx1, hcy1⟩ | exact ⟨hcx, hcy⟩) ((first | (go_at_call 37; refine (HWI.out _ (by first | exact (Only.refl _ _).drew | exact Only.refl _ _)).mono ?_; rintro e w1 ⟨A2, c2, rfl, hrd, ho1, hsb, hrow⟩; have hcx1 := (ho1.cell (p := ⟨w.heap.size, 0, none⟩) HLT.out HNB.out).trans hcx; have hcy1 := (ho1.cell (p := ⟨w.heap.size, 5, none⟩) HLT.out HNB.out).trans hcy; have HO1 := Lib.hid ho1; have H2 := Lib.hid (HE.out _ w1 A2 c2 (by first | exact (Only.refl _ _).drew | exact Only.refl _ _) ho1 hsb hrow hrd); clear hrd ho1 hsb hrow) | (go_at_call 36; refine H2.out.mono ?_; intro e w2 h; obtain rfl : e = .returned (.tuple #[]) := h.1.1; have hcx2 := (h.2.cell (p := ⟨w.heap.size, 0, none⟩) (Nat.lt_of_lt_of_le HLT.out HO1.out.size) HNW.out).trans hcx1; have hcy2 := (h.2.cell (p := ⟨w.heap.size, 5, none⟩) (Nat.lt_of_lt_of_le HLT.out HO1.out.size) HNW.out).trans hcy1; have HQ := Lib.hid h.1; clear h)))
  all_goals
    go_wp2_with fail
    go_end0
    exact HQ.out

end Go.Proofs.Ytlpmjahhdbcfiaa
