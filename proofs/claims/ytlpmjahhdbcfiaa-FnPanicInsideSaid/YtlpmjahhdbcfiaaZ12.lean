/- One step of the reference, kind by kind: contracts. How long the reference's bytes may be: plain laws. -/
import Derived.Test.YtlpmjahhdbcfiaaZ11
/-! ### One step of the reference, kind by kind: contracts. -/
namespace Go.Proofs.Ytlpmjahhdbcfiaa
open Go.RowKit
set_option linter.unusedVariables false

theorem SpecP.grow {w w1 w' : World} {base b : Nat} {r : Value} {s : St} {e : Ending} (h : SpecP w1 base b r s e w') (ho : Only [] w w1) : SpecP w base b r s e w' := SpecP.trans h (ho.more (by simp)) (OwnLe.refl _ _)

set_option maxRecDepth 100000 in
theorem sstep6 (n t : Int) (d o : List Int) (kids : Its) (Ad : Option Addr) (cd : Nat) (Ao : Option Addr) (co : Nat) (Ak : Option Addr) (ck : Nat) (w : World) (base b : Nat) (r : Value) (s : St) (B : Nat) (g : SGood w base b r s B) (hi : ItemRd w B n t d o kids Ad Ao Ak) (hl : s.out.length + (24 + d.length + 5 * o.length + wt kids) ≤ 4000000) :
    Calls Try.prog 28 #[.pointer (some ⟨b, 0, none⟩), itemV 6 n t d o kids Ad cd Ao co Ak ck] w (SpecP w base b r (sWr d s)) := by
  have g1 := g.grow ((Only.refl _ _).alloc (.cells #[.int .i64 6, .int .i64 n, .int .i64 t, .slice Ad d.length cd, .slice Ao o.length co, .slice Ak kids.len ck] 37))
  have i1 := hi.alloc g.hB (.cells #[.int .i64 6, .int .i64 n, .int .i64 t, .slice Ad d.length cd, .slice Ao o.length co, .slice Ak kids.len ck] 37)
  have H2 := Lib.hid (Calls.mono (swrite_any b r s Ad d.length cd d _ base B B g1 i1.rd rfl (by omega)) (fun _ _ h => SpecP.grow h ((Only.refl _ _).alloc _)))
  clear g hi hl g1 i1
  unfold itemV
  go_enter Try.func28, Try.ntmps28
  go_wp2_with fail
  refine H2.out.mono ?_
  intro e w2 h
  obtain rfl : e = .returned (.tuple #[]) := h.1
  have HQ := Lib.hid h
  clear h H2
  go_wp2_with fail
  go_end0
  exact HQ.out

set_option maxRecDepth 100000 in
theorem sstep12 (n t : Int) (d o : List Int) (kids : Its) (Ad : Option Addr) (cd : Nat) (Ao : Option Addr) (co : Nat) (Ak : Option Addr) (ck : Nat) (w : World) (base b : Nat) (r : Value) (s : St) (B : Nat) (g : SGood w base b r s B) (hi : ItemRd w B n t d o kids Ad Ao Ak) (hl : s.out.length + (24 + d.length + 5 * o.length + wt kids) ≤ 4000000) :
    Calls Try.prog 28 #[.pointer (some ⟨b, 0, none⟩), itemV 12 n t d o kids Ad cd Ao co Ak ck] w (SpecP w base b r (sElem 1 [if n = 1 then 255 else 0] s)) := by
  have g1 := g.grow ((Only.refl _ _).alloc (.cells #[.int .i64 12, .int .i64 n, .int .i64 t, .slice Ad d.length cd, .slice Ao o.length co, .slice Ak kids.len ck] 37))
  have i1 := hi.alloc g.hB (.cells #[.int .i64 12, .int .i64 n, .int .i64 t, .slice Ad d.length cd, .slice Ao o.length co, .slice Ak kids.len ck] 37)
  have S2 := sprim12 n t d o kids Ad cd Ao co Ak ck _ base b r s B g1 i1 (by omega)
  generalize sElem 1 [if n = 1 then 255 else 0] s = q at S2 ⊢
  have H2 := Lib.hid (Calls.mono S2 (fun _ _ h => SpecP.grow h ((Only.refl _ _).alloc _)))
  unfold itemV at H2
  clear g hi hl g1 i1 S2
  unfold itemV
  go_enter Try.func28, Try.ntmps28
  go_wp2_with fail
  refine H2.out.mono ?_
  intro e w2 h
  obtain rfl : e = .returned (.tuple #[]) := h.1
  have HQ := Lib.hid h
  clear h H2
  go_wp2_with fail
  go_end0
  exact HQ.out

set_option maxRecDepth 100000 in
theorem sstep13 (n t : Int) (d o : List Int) (kids : Its) (Ad : Option Addr) (cd : Nat) (Ao : Option Addr) (co : Nat) (Ak : Option Addr) (ck : Nat) (w : World) (base b : Nat) (r : Value) (s : St) (B : Nat) (g : SGood w base b r s B) (hi : ItemRd w B n t d o kids Ad Ao Ak) (hl : s.out.length + (24 + d.length + 5 * o.length + wt kids) ≤ 4000000) :
    Calls Try.prog 28 #[.pointer (some ⟨b, 0, none⟩), itemV 13 n t d o kids Ad cd Ao co Ak ck] w (SpecP w base b r (sElem 2 (octs n) s)) := by
  have g1 := g.grow ((Only.refl _ _).alloc (.cells #[.int .i64 13, .int .i64 n, .int .i64 t, .slice Ad d.length cd, .slice Ao o.length co, .slice Ak kids.len ck] 37))
  have i1 := hi.alloc g.hB (.cells #[.int .i64 13, .int .i64 n, .int .i64 t, .slice Ad d.length cd, .slice Ao o.length co, .slice Ak kids.len ck] 37)
  have S2 := sprim13 n t d o kids Ad cd Ao co Ak ck _ base b r s B g1 i1 (by omega)
  generalize sElem 2 (octs n) s = q at S2 ⊢
  have H2 := Lib.hid (Calls.mono S2 (fun _ _ h => SpecP.grow h ((Only.refl _ _).alloc _)))
  unfold itemV at H2
  clear g hi hl g1 i1 S2
  unfold itemV
  go_enter Try.func28, Try.ntmps28
  go_wp2_with fail
  refine H2.out.mono ?_
  intro e w2 h
  obtain rfl : e = .returned (.tuple #[]) := h.1
  have HQ := Lib.hid h
  clear h H2
  go_wp2_with fail
  go_end0
  exact HQ.out

set_option maxRecDepth 100000 in
theorem sstep14 (n t : Int) (d o : List Int) (kids : Its) (Ad : Option Addr) (cd : Nat) (Ao : Option Addr) (co : Nat) (Ak : Option Addr) (ck : Nat) (w : World) (base b : Nat) (r : Value) (s : St) (B : Nat) (g : SGood w base b r s B) (hi : ItemRd w B n t d o kids Ad Ao Ak) (hl : s.out.length + (24 + d.length + 5 * o.length + wt kids) ≤ 4000000) :
    Calls Try.prog 28 #[.pointer (some ⟨b, 0, none⟩), itemV 14 n t d o kids Ad cd Ao co Ak ck] w (SpecP w base b r (sElem t (octs n) s)) := by
  have g1 := g.grow ((Only.refl _ _).alloc (.cells #[.int .i64 14, .int .i64 n, .int .i64 t, .slice Ad d.length cd, .slice Ao o.length co, .slice Ak kids.len ck] 37))
  have i1 := hi.alloc g.hB (.cells #[.int .i64 14, .int .i64 n, .int .i64 t, .slice Ad d.length cd, .slice Ao o.length co, .slice Ak kids.len ck] 37)
  have S2 := sprim14 n t d o kids Ad cd Ao co Ak ck _ base b r s B g1 i1 (by omega)
  generalize sElem t (octs n) s = q at S2 ⊢
  have H2 := Lib.hid (Calls.mono S2 (fun _ _ h => SpecP.grow h ((Only.refl _ _).alloc _)))
  unfold itemV at H2
  clear g hi hl g1 i1 S2
  unfold itemV
  go_enter Try.func28, Try.ntmps28
  go_wp2_with fail
  refine H2.out.mono ?_
  intro e w2 h
  obtain rfl : e = .returned (.tuple #[]) := h.1
  have HQ := Lib.hid h
  clear h H2
  go_wp2_with fail
  go_end0
  exact HQ.out

set_option maxRecDepth 100000 in
theorem sstep15 (n t : Int) (d o : List Int) (kids : Its) (Ad : Option Addr) (cd : Nat) (Ao : Option Addr) (co : Nat) (Ak : Option Addr) (ck : Nat) (w : World) (base b : Nat) (r : Value) (s : St) (B : Nat) (g : SGood w base b r s B) (hi : ItemRd w B n t d o kids Ad Ao Ak) (hl : s.out.length + (24 + d.length + 5 * o.length + wt kids) ≤ 4000000) :
    Calls Try.prog 28 #[.pointer (some ⟨b, 0, none⟩), itemV 15 n t d o kids Ad cd Ao co Ak ck] w (SpecP w base b r (sElem 2 (uocts (n % 18446744073709551616)) s)) := by
  have g1 := g.grow ((Only.refl _ _).alloc (.cells #[.int .i64 15, .int .i64 n, .int .i64 t, .slice Ad d.length cd, .slice Ao o.length co, .slice Ak kids.len ck] 37))
  have i1 := hi.alloc g.hB (.cells #[.int .i64 15, .int .i64 n, .int .i64 t, .slice Ad d.length cd, .slice Ao o.length co, .slice Ak kids.len ck] 37)
  have S2 := sprim15 n t d o kids Ad cd Ao co Ak ck _ base b r s B g1 i1 (by omega)
  generalize sElem 2 (uocts (n % 18446744073709551616)) s = q at S2 ⊢
  have H2 := Lib.hid (Calls.mono S2 (fun _ _ h => SpecP.grow h ((Only.refl _ _).alloc _)))
  unfold itemV at H2
  clear g hi hl g1 i1 S2
  unfold itemV
  go_enter Try.func28, Try.ntmps28
  go_wp2_with fail
  refine H2.out.mono ?_
  intro e w2 h
  obtain rfl : e = .returned (.tuple #[]) := h.1
  have HQ := Lib.hid h
  clear h H2
  go_wp2_with fail
  go_end0
  exact HQ.out

set_option maxRecDepth 100000 in
theorem sstep16 (n t : Int) (d o : List Int) (kids : Its) (Ad : Option Addr) (cd : Nat) (Ao : Option Addr) (co : Nat) (Ak : Option Addr) (ck : Nat) (w : World) (base b : Nat) (r : Value) (s : St) (B : Nat) (g : SGood w base b r s B) (hi : ItemRd w B n t d o kids Ad Ao Ak) (hl : s.out.length + (24 + d.length + 5 * o.length + wt kids) ≤ 4000000) :
    Calls Try.prog 28 #[.pointer (some ⟨b, 0, none⟩), itemV 16 n t d o kids Ad cd Ao co Ak ck] w (SpecP w base b r (sElem 10 (octs n) s)) := by
  have g1 := g.grow ((Only.refl _ _).alloc (.cells #[.int .i64 16, .int .i64 n, .int .i64 t, .slice Ad d.length cd, .slice Ao o.length co, .slice Ak kids.len ck] 37))
  have i1 := hi.alloc g.hB (.cells #[.int .i64 16, .int .i64 n, .int .i64 t, .slice Ad d.length cd, .slice Ao o.length co, .slice Ak kids.len ck] 37)
  have S2 := sprim16 n t d o kids Ad cd Ao co Ak ck _ base b r s B g1 i1 (by omega)
  generalize sElem 10 (octs n) s = q at S2 ⊢
  have H2 := Lib.hid (Calls.mono S2 (fun _ _ h => SpecP.grow h ((Only.refl _ _).alloc _)))
  unfold itemV at H2
  clear g hi hl g1 i1 S2
  unfold itemV
  go_enter Try.func28, Try.ntmps28
  go_wp2_with fail
  refine H2.out.mono ?_
  intro e w2 h
  obtain rfl : e = .returned (.tuple #[]) := h.1
  have HQ := Lib.hid h
  clear h H2
  go_wp2_with fail
  go_end0
  exact HQ.out

set_option maxRecDepth 100000 in
theorem sstep17 (n t : Int) (d o : List Int) (kids : Its) (Ad : Option Addr) (cd : Nat) (Ao : Option Addr) (co : Nat) (Ak : Option Addr) (ck : Nat) (w : World) (base b : Nat) (r : Value) (s : St) (B : Nat) (g : SGood w base b r s B) (hi : ItemRd w B n t d o kids Ad Ao Ak) (hl : s.out.length + (24 + d.length + 5 * o.length + wt kids) ≤ 4000000) :
    Calls Try.prog 28 #[.pointer (some ⟨b, 0, none⟩), itemV 17 n t d o kids Ad cd Ao co Ak ck] w (SpecP w base b r (sElem 5 [] s)) := by
  have g1 := g.grow ((Only.refl _ _).alloc (.cells #[.int .i64 17, .int .i64 n, .int .i64 t, .slice Ad d.length cd, .slice Ao o.length co, .slice Ak kids.len ck] 37))
  have i1 := hi.alloc g.hB (.cells #[.int .i64 17, .int .i64 n, .int .i64 t, .slice Ad d.length cd, .slice Ao o.length co, .slice Ak kids.len ck] 37)
  have S2 := sprim17 n t d o kids Ad cd Ao co Ak ck _ base b r s B g1 i1 (by omega)
  generalize sElem 5 [] s = q at S2 ⊢
  have H2 := Lib.hid (Calls.mono S2 (fun _ _ h => SpecP.grow h ((Only.refl _ _).alloc _)))
  unfold itemV at H2
  clear g hi hl g1 i1 S2
  unfold itemV
  go_enter Try.func28, Try.ntmps28
  go_wp2_with fail
  refine H2.out.mono ?_
  intro e w2 h
  obtain rfl : e = .returned (.tuple #[]) := h.1
  have HQ := Lib.hid h
  clear h H2
  go_wp2_with fail
  go_end0
  exact HQ.out

set_option maxRecDepth 100000 in
theorem sstep18 (n t : Int) (d o : List Int) (kids : Its) (Ad : Option Addr) (cd : Nat) (Ao : Option Addr) (co : Nat) (Ak : Option Addr) (ck : Nat) (w : World) (base b : Nat) (r : Value) (s : St) (B : Nat) (g : SGood w base b r s B) (hi : ItemRd w B n t d o kids Ad Ao Ak) (hl : s.out.length + (24 + d.length + 5 * o.length + wt kids) ≤ 4000000) :
    Calls Try.prog 28 #[.pointer (some ⟨b, 0, none⟩), itemV 18 n t d o kids Ad cd Ao co Ak ck] w (SpecP w base b r (sElem 4 d s)) := by
  have g1 := g.grow ((Only.refl _ _).alloc (.cells #[.int .i64 18, .int .i64 n, .int .i64 t, .slice Ad d.length cd, .slice Ao o.length co, .slice Ak kids.len ck] 37))
  have i1 := hi.alloc g.hB (.cells #[.int .i64 18, .int .i64 n, .int .i64 t, .slice Ad d.length cd, .slice Ao o.length co, .slice Ak kids.len ck] 37)
  have S2 := sprim18 n t d o kids Ad cd Ao co Ak ck _ base b r s B g1 i1 (by omega)
  generalize sElem 4 d s = q at S2 ⊢
  have H2 := Lib.hid (Calls.mono S2 (fun _ _ h => SpecP.grow h ((Only.refl _ _).alloc _)))
  unfold itemV at H2
  clear g hi hl g1 i1 S2
  unfold itemV
  go_enter Try.func28, Try.ntmps28
  go_wp2_with fail
  refine H2.out.mono ?_
  intro e w2 h
  obtain rfl : e = .returned (.tuple #[]) := h.1
  have HQ := Lib.hid h
  clear h H2
  go_wp2_with fail
  go_end0
  exact HQ.out

set_option maxRecDepth 100000 in
theorem sstep19 (n t : Int) (d o : List Int) (kids : Its) (Ad : Option Addr) (cd : Nat) (Ao : Option Addr) (co : Nat) (Ak : Option Addr) (ck : Nat) (w : World) (base b : Nat) (r : Value) (s : St) (B : Nat) (g : SGood w base b r s B) (hi : ItemRd w B n t d o kids Ad Ao Ak) (hl : s.out.length + (24 + d.length + 5 * o.length + wt kids) ≤ 4000000) :
    Calls Try.prog 28 #[.pointer (some ⟨b, 0, none⟩), itemV 19 n t d o kids Ad cd Ao co Ak ck] w (SpecP w base b r (sElem 3 (0 :: d) s)) := by
  have g1 := g.grow ((Only.refl _ _).alloc (.cells #[.int .i64 19, .int .i64 n, .int .i64 t, .slice Ad d.length cd, .slice Ao o.length co, .slice Ak kids.len ck] 37))
  have i1 := hi.alloc g.hB (.cells #[.int .i64 19, .int .i64 n, .int .i64 t, .slice Ad d.length cd, .slice Ao o.length co, .slice Ak kids.len ck] 37)
  have S2 := sprim19 n t d o kids Ad cd Ao co Ak ck _ base b r s B g1 i1 (by omega)
  generalize sElem 3 (0 :: d) s = q at S2 ⊢
  have H2 := Lib.hid (Calls.mono S2 (fun _ _ h => SpecP.grow h ((Only.refl _ _).alloc _)))
  unfold itemV at H2
  clear g hi hl g1 i1 S2
  unfold itemV
  go_enter Try.func28, Try.ntmps28
  go_wp2_with fail
  refine H2.out.mono ?_
  intro e w2 h
  obtain rfl : e = .returned (.tuple #[]) := h.1
  have HQ := Lib.hid h
  clear h H2
  go_wp2_with fail
  go_end0
  exact HQ.out

set_option maxRecDepth 100000 in
theorem sstep20 (n t : Int) (d o : List Int) (kids : Its) (Ad : Option Addr) (cd : Nat) (Ao : Option Addr) (co : Nat) (Ak : Option Addr) (ck : Nat) (w : World) (base b : Nat) (r : Value) (s : St) (B : Nat) (g : SGood w base b r s B) (hi : ItemRd w B n t d o kids Ad Ao Ak) (hl : s.out.length + (24 + d.length + 5 * o.length + wt kids) ≤ 4000000) :
    Calls Try.prog 28 #[.pointer (some ⟨b, 0, none⟩), itemV 20 n t d o kids Ad cd Ao co Ak ck] w (SpecP w base b r (sOid o s)) := by
  have g1 := g.grow ((Only.refl _ _).alloc (.cells #[.int .i64 20, .int .i64 n, .int .i64 t, .slice Ad d.length cd, .slice Ao o.length co, .slice Ak kids.len ck] 37))
  have i1 := hi.alloc g.hB (.cells #[.int .i64 20, .int .i64 n, .int .i64 t, .slice Ad d.length cd, .slice Ao o.length co, .slice Ak kids.len ck] 37)
  have S2 := sprim20 n t d o kids Ad cd Ao co Ak ck _ base b r s B g1 i1 (by omega)
  generalize sOid o s = q at S2 ⊢
  have H2 := Lib.hid (Calls.mono S2 (fun _ _ h => SpecP.grow h ((Only.refl _ _).alloc _)))
  unfold itemV at H2
  clear g hi hl g1 i1 S2
  unfold itemV
  go_enter Try.func28, Try.ntmps28
  go_wp2_with fail
  refine H2.out.mono ?_
  intro e w2 h
  obtain rfl : e = .returned (.tuple #[]) := h.1
  have HQ := Lib.hid h
  clear h H2
  go_wp2_with fail
  go_end0
  exact HQ.out

set_option maxRecDepth 100000 in
theorem sstep24 (n t : Int) (d o : List Int) (kids : Its) (Ad : Option Addr) (cd : Nat) (Ao : Option Addr) (co : Nat) (Ak : Option Addr) (ck : Nat) (w : World) (base b : Nat) (r : Value) (s : St) (B : Nat) (g : SGood w base b r s B) (hi : ItemRd w B n t d o kids Ad Ao Ak) (hl : s.out.length + (24 + d.length + 5 * o.length + wt kids) ≤ 4000000) (hk : RunOK kids) (ins : Bool) (hok : Ok kids ins) (hrg : Rng kids) :
    Calls Try.prog 28 #[.pointer (some ⟨b, 0, none⟩), itemV 24 n t d o kids Ad cd Ao co Ak ck] w (SpecP w base b r ({ sRun kids s with fl := (sRun kids s).fl || decide ((24 : Int) = 25) })) := by
  have g1 := g.grow ((Only.refl _ _).alloc (.cells #[.int .i64 24, .int .i64 n, .int .i64 t, .slice Ad d.length cd, .slice Ao o.length co, .slice Ak kids.len ck] 37))
  have i1 := hi.alloc g.hB (.cells #[.int .i64 24, .int .i64 n, .int .i64 t, .slice Ad d.length cd, .slice Ao o.length co, .slice Ak kids.len ck] 37)
  have H2 := Lib.hid (Calls.mono (svalue_ok 24 (by decide) n t d o kids Ad cd Ao co Ak ck hk ins _ base b r s B g1 i1 hok hrg (by omega)) (fun _ _ h => SpecP.grow h ((Only.refl _ _).alloc _)))
  unfold itemV at H2
  clear g hi hl g1 i1 hk hok hrg
  unfold itemV
  go_enter Try.func28, Try.ntmps28
  go_wp2_with fail
  refine H2.out.mono ?_
  intro e w2 h
  obtain rfl : e = .returned (.tuple #[]) := h.1
  have HQ := Lib.hid h
  clear h H2
  go_wp2_with fail
  go_end0
  exact HQ.out

set_option maxRecDepth 100000 in
theorem sstep25 (n t : Int) (d o : List Int) (kids : Its) (Ad : Option Addr) (cd : Nat) (Ao : Option Addr) (co : Nat) (Ak : Option Addr) (ck : Nat) (w : World) (base b : Nat) (r : Value) (s : St) (B : Nat) (g : SGood w base b r s B) (hi : ItemRd w B n t d o kids Ad Ao Ak) (hl : s.out.length + (24 + d.length + 5 * o.length + wt kids) ≤ 4000000) (hk : RunOK kids) (ins : Bool) (hok : Ok kids ins) (hrg : Rng kids) :
    Calls Try.prog 28 #[.pointer (some ⟨b, 0, none⟩), itemV 25 n t d o kids Ad cd Ao co Ak ck] w (SpecP w base b r ({ sRun kids s with fl := (sRun kids s).fl || decide ((25 : Int) = 25) })) := by
  have g1 := g.grow ((Only.refl _ _).alloc (.cells #[.int .i64 25, .int .i64 n, .int .i64 t, .slice Ad d.length cd, .slice Ao o.length co, .slice Ak kids.len ck] 37))
  have i1 := hi.alloc g.hB (.cells #[.int .i64 25, .int .i64 n, .int .i64 t, .slice Ad d.length cd, .slice Ao o.length co, .slice Ak kids.len ck] 37)
  have H2 := Lib.hid (Calls.mono (svalue_ok 25 (by decide) n t d o kids Ad cd Ao co Ak ck hk ins _ base b r s B g1 i1 hok hrg (by omega)) (fun _ _ h => SpecP.grow h ((Only.refl _ _).alloc _)))
  unfold itemV at H2
  clear g hi hl g1 i1 hk hok hrg
  unfold itemV
  go_enter Try.func28, Try.ntmps28
  go_wp2_with fail
  refine H2.out.mono ?_
  intro e w2 h
  obtain rfl : e = .returned (.tuple #[]) := h.1
  have HQ := Lib.hid h
  clear h H2
  go_wp2_with fail
  go_end0
  exact HQ.out

set_option maxRecDepth 100000 in
theorem sstep22 (n t : Int) (d o : List Int) (kids : Its) (Ad : Option Addr) (cd : Nat) (Ao : Option Addr) (co : Nat) (Ak : Option Addr) (ck : Nat) (w : World) (base b : Nat) (r : Value) (s : St) (B : Nat) (g : SGood w base b r s B) (hi : ItemRd w B n t d o kids Ad Ao Ak) (hl : s.out.length + (24 + d.length + 5 * o.length + wt kids) ≤ 4000000) :
    Calls Try.prog 28 #[.pointer (some ⟨b, 0, none⟩), itemV 22 n t d o kids Ad cd Ao co Ak ck] w (SpecP w base b r (sBack n s)) := by
  have g1 := g.grow ((Only.refl _ _).alloc (.cells #[.int .i64 22, .int .i64 n, .int .i64 t, .slice Ad d.length cd, .slice Ao o.length co, .slice Ak kids.len ck] 37))
  have i1 := hi.alloc g.hB (.cells #[.int .i64 22, .int .i64 n, .int .i64 t, .slice Ad d.length cd, .slice Ao o.length co, .slice Ak kids.len ck] 37)
  unfold sBack
  by_cases hn : 0 ≤ n ∧ n ≤ s.dir
  · rw [if_pos hn]
    obtain ⟨m, rfl⟩ := Int.eq_ofNat_of_zero_le hn.1
    rw [Int.toNat_natCast]
    have H2 := Lib.hid (Calls.mono (sback_ok b r s m _ base B g1 (by omega) (by omega)) (fun _ _ h => SpecP.grow h ((Only.refl _ _).alloc _)))
    clear g hi hl g1 i1 hn
    unfold itemV
    go_enter Try.func28, Try.ntmps28
    go_wp2_with fail
    refine H2.out.mono ?_
    intro e w2 h
    obtain rfl : e = .returned (.tuple #[]) := h.1
    have HQ := Lib.hid h
    clear h H2
    go_wp2_with fail
    go_end0
    exact HQ.out
  · rw [if_neg hn]
    have H2 := Lib.hid (Calls.mono (sback_bad b r s n _ base B g1 (by omega)) (fun _ _ h => SpecP.grow h ((Only.refl _ _).alloc _)))
    clear g hi hl g1 i1 hn
    unfold itemV
    go_enter Try.func28, Try.ntmps28
    go_wp2_with fail
    refine H2.out.mono ?_
    intro e w2 h
    obtain rfl : e = .returned (.tuple #[]) := h.1
    have HQ := Lib.hid h
    clear h H2
    go_wp2_with fail
    go_end0
    exact HQ.out

set_option maxRecDepth 100000 in
theorem sstep21 (n t : Int) (d o : List Int) (kids : Its) (Ad : Option Addr) (cd : Nat) (Ao : Option Addr) (co : Nat) (Ak : Option Addr) (ck : Nat) (w : World) (base b : Nat) (r : Value) (s : St) (B : Nat) (g : SGood w base b r s B) (hi : ItemRd w B n t d o kids Ad Ao Ak) (hl : s.out.length + (24 + d.length + 5 * o.length + wt kids) ≤ 4000000) :
    Calls Try.prog 28 #[.pointer (some ⟨b, 0, none⟩), itemV 21 n t d o kids Ad cd Ao co Ak ck] w (SpecP w base b r ({ s with fl := true })) := by
  have g1 := g.grow ((Only.refl _ _).alloc (.cells #[.int .i64 21, .int .i64 n, .int .i64 t, .slice Ad d.length cd, .slice Ao o.length co, .slice Ak kids.len ck] 37))
  have i1 := hi.alloc g.hB (.cells #[.int .i64 21, .int .i64 n, .int .i64 t, .slice Ad d.length cd, .slice Ao o.length co, .slice Ak kids.len ck] 37)
  have hc2 := g1.sb.c2
  have hf2 := g1.sb.free 2
  have HQ := Lib.hid (SpecP.grow (sfail g1) ((Only.refl _ _).alloc _))
  clear g hi hl g1 i1
  unfold itemV
  go_enter Try.func28, Try.ntmps28
  go_wp2_with fail
  go_end0
  exact HQ.out

set_option maxRecDepth 100000 in
theorem sstep23 (n t : Int) (d o : List Int) (kids : Its) (Ad : Option Addr) (cd : Nat) (Ao : Option Addr) (co : Nat) (Ak : Option Addr) (ck : Nat) (w : World) (base b : Nat) (r : Value) (s : St) (B : Nat) (g : SGood w base b r s B) (hi : ItemRd w B n t d o kids Ad Ao Ak) (hl : s.out.length + (24 + d.length + 5 * o.length + wt kids) ≤ 4000000) :
    Calls Try.prog 28 #[.pointer (some ⟨b, 0, none⟩), itemV 23 n t d o kids Ad cd Ao co Ak ck] w (SpecP w base b r ({ s with fl := true })) := by
  have g1 := g.grow ((Only.refl _ _).alloc (.cells #[.int .i64 23, .int .i64 n, .int .i64 t, .slice Ad d.length cd, .slice Ao o.length co, .slice Ak kids.len ck] 37))
  have i1 := hi.alloc g.hB (.cells #[.int .i64 23, .int .i64 n, .int .i64 t, .slice Ad d.length cd, .slice Ao o.length co, .slice Ak kids.len ck] 37)
  have hc2 := g1.sb.c2
  have hf2 := g1.sb.free 2
  have HQ := Lib.hid (SpecP.grow (sfail g1) ((Only.refl _ _).alloc _))
  clear g hi hl g1 i1
  unfold itemV
  go_enter Try.func28, Try.ntmps28
  go_wp2_with fail
  go_end0
  exact HQ.out

end Go.Proofs.Ytlpmjahhdbcfiaa

/-! ### How long the reference's bytes may be: plain laws. -/
namespace Go.Proofs.Ytlpmjahhdbcfiaa
open Go.RowKit
set_option linter.unusedVariables false

theorem sElem_le (t : Int) (xs : List Int) (s : St) : (sElem t xs s).out.length ≤ s.out.length + xs.length + 6 := by
  unfold sElem
  split
  · simp; omega
  · have := hdr_len_le t xs.length
    simp only [List.length_append, wrapped]
    omega
theorem sPre_le (m : Nat) (hm : m ≤ 4) (xs : List Int) (s : St) : (sPre m xs s).out.length ≤ s.out.length + xs.length + 4 := by
  unfold sPre
  split
  · simp; omega
  · simp only [List.length_append, bigB_len]
    omega
theorem sLeaf_le (k n t : Int) (d o : List Int) (s : St) (hn : -9223372036854775808 ≤ n ∧ n ≤ 9223372036854775807) (hov : ∀ v ∈ o, v ≤ 2147483647) : (sLeaf k n t d o s).out.length ≤ s.out.length + (16 + d.length + 5 * o.length) := by
  have h1 := octs_len n
  have h2 := (iL_is n hn.1 hn.2).1
  have h3 := uocts_len (n % 18446744073709551616)
  have h4 := (uL_is (n % 18446744073709551616) (by omega) (by omega)).1
  have a1 := sElem_le 1 [if n = 1 then 255 else 0] s
  have a2 := sElem_le 2 (octs n) s
  have a3 := sElem_le t (octs n) s
  have a4 := sElem_le 2 (uocts (n % 18446744073709551616)) s
  have a5 := sElem_le 10 (octs n) s
  have a6 := sElem_le 5 [] s
  have a7 := sElem_le 4 d s
  have a8 := sElem_le 3 (0 :: d) s
  simp only [List.length_cons, List.length_nil] at a1 a6 a8
  unfold sLeaf
  by_cases e12 : k = 12
  · rw [if_pos e12]; omega
  rw [if_neg e12]
  by_cases e13 : k = 13
  · rw [if_pos e13]; omega
  rw [if_neg e13]
  by_cases e14 : k = 14
  · rw [if_pos e14]; omega
  rw [if_neg e14]
  by_cases e15 : k = 15
  · rw [if_pos e15]; omega
  rw [if_neg e15]
  by_cases e16 : k = 16
  · rw [if_pos e16]; omega
  rw [if_neg e16]
  by_cases e17 : k = 17
  · rw [if_pos e17]; omega
  rw [if_neg e17]
  by_cases e18 : k = 18
  · rw [if_pos e18]; omega
  rw [if_neg e18]
  by_cases e19 : k = 19
  · rw [if_pos e19]; omega
  rw [if_neg e19]
  unfold sOid
  split
  · rename_i h
    obtain ⟨f1, f2, f3, f4⟩ := oidRight_facts h
    have hlc := oidCs_len (xs := o) (cs := oidC o) (by unfold oidCs; rw [if_pos f4])
    have := sElem_le 6 (oidC o) s
    omega
  · simp <;> omega
theorem sOne_le (k n t : Int) (d o : List Int) (inn : St) (on : St → St) (s : St) (K : Nat) (hn : -9223372036854775808 ≤ n ∧ n ≤ 9223372036854775807) (hov : ∀ v ∈ o, v ≤ 2147483647) (hin : inn.out.length ≤ K) (hon : (on s).out.length ≤ s.out.length + K) :
    (sOne k n t d o inn on s).out.length ≤ s.out.length + (16 + d.length + 5 * o.length + K) := by
  have a1 := sPre_le
  have a2 := sElem_le t inn.out (sIn inn s)
  have a3 := sLeaf_le k n t d o s hn hov
  have e : (sIn inn s).out = s.out := rfl
  rw [e] at a2
  unfold sOne
  have w1 : ∀ m, m ≤ 8 → (sWr (bigB n m) s).out.length ≤ s.out.length + 8 := by intro m hm; simp [sWr, bigB_len]; omega
  have := w1 1 (by decide)
  have := w1 2 (by decide)
  have := w1 3 (by decide)
  have := w1 4 (by decide)
  have := w1 6 (by decide)
  have := w1 8 (by decide)
  have w6 : (sWr d s).out.length = s.out.length + d.length := by simp [sWr]
  have w7 : (sBack n s).out.length ≤ s.out.length := by unfold sBack; split <;> simp <;> omega
  by_cases e0 : k = 0
  · rw [if_pos e0]; omega
  rw [if_neg e0]
  by_cases e1 : k = 1
  · rw [if_pos e1]; omega
  rw [if_neg e1]
  by_cases e2 : k = 2
  · rw [if_pos e2]; omega
  rw [if_neg e2]
  by_cases e3 : k = 3
  · rw [if_pos e3]; omega
  rw [if_neg e3]
  by_cases e4 : k = 4
  · rw [if_pos e4]; omega
  rw [if_neg e4]
  by_cases e5 : k = 5
  · rw [if_pos e5]; omega
  rw [if_neg e5]
  by_cases e6 : k = 6
  · rw [if_pos e6]; omega
  rw [if_neg e6]
  by_cases e7 : k ≤ 10
  · rw [if_pos e7]; have := a1 (k - 6).toNat (by omega) inn.out (sIn inn s); rw [e] at this; omega
  rw [if_neg e7]
  by_cases e8 : k = 11
  · rw [if_pos e8]; omega
  rw [if_neg e8]
  by_cases e9 : k ≤ 20
  · rw [if_pos e9]; omega
  rw [if_neg e9]
  by_cases e10 : k = 22
  · rw [if_pos e10]; omega
  rw [if_neg e10]
  by_cases e11 : k = 24 ∨ k = 25
  · rw [if_pos e11]; show (on s).out.length ≤ _; omega
  rw [if_neg e11]
  show s.out.length ≤ _
  omega
theorem srun_le : ∀ (its : Its) (ins : Bool) (s : St), Rng its → Ok its ins → (sRun its s).out.length ≤ s.out.length + wt its := by
  intro its
  induction its with
  | nil => intro _ s _ _; simp [sRun, wt]
  | cons k n t d o kids rest ihk ihr =>
    intro ins s hr ho
    obtain ⟨r1, r2, r3⟩ := hr
    obtain ⟨_, _, _, _, _, o6, o7, o8⟩ := ho
    unfold sRun
    split
    · simp [wt]
    · have h1 := sOne_le k n t d o (sRun kids St.nil) (sRun kids) s (wt kids) r1 o6 (by have := ihk _ St.nil r2 o7; simpa [St.nil] using this) (ihk _ s r2 o7)
      have h2 := ihr _ (sOne k n t d o (sRun kids St.nil) (sRun kids) s) r3 o8
      simp only [wt]
      omega

end Go.Proofs.Ytlpmjahhdbcfiaa
