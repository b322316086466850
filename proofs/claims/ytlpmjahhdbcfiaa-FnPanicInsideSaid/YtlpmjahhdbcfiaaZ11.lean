/- The reference's elements without steps within: contracts. The reference's builder: the model; steps within: contract. The reference's builder: values: contract. -/
import Derived.Test.YtlpmjahhdbcfiaaZ9
/-! ### The reference's elements without steps within: contracts. -/
namespace Go.Proofs.Ytlpmjahhdbcfiaa
open Go.RowKit

/-- An element of bytes that are new; what the call itself turned besides. -/
theorem selem_new2 {w w0 : World} {b : Nat} {r : Value} {s : St} {t : Int} {xs : List Int} {base B : Nat} (g : SGood w base b r s B) (ht : 0 ≤ t ∧ t ≤ 255) (hl : s.out.length + xs.length ≤ 8000000) (hx : Byt xs) (W : World) (A2 : Option Addr) (c2 : Nat) (ho : Only [] w W) (hown : W.ownsRow w0.heap.size 5 1 (.slice A2 xs.length c2) xs.length (xs.map (Value.int .u8))) :
    Calls Try.prog 38 #[.pointer (some ⟨b, 0, none⟩), .int .i64 t, .slice A2 xs.length c2] W (fun e w' => SpecP w base b r (sElem t xs s) e w' ∧ Only (b :: own r) W w') :=
  Calls.mono (selem_any b r s t A2 _ c2 xs W base B _ (g.grow ho) (Rd.of_own hx hown) (Nat.le_refl _) rfl ht hl) (fun _ _ h => ⟨SpecP.trans h (ho.more (by simp)) (OwnLe.refl _ _), h.2.1⟩)
/-- An element of bytes that are new. -/
theorem selem_new {w w0 : World} {b : Nat} {r : Value} {s : St} {t : Int} {xs : List Int} {base B : Nat} (g : SGood w base b r s B) (ht : 0 ≤ t ∧ t ≤ 255) (hl : s.out.length + xs.length ≤ 8000000) (hx : Byt xs) (W : World) (A2 : Option Addr) (c2 : Nat) (ho : Only [] w W) (hown : W.ownsRow w0.heap.size 5 1 (.slice A2 xs.length c2) xs.length (xs.map (Value.int .u8))) :
    Calls Try.prog 38 #[.pointer (some ⟨b, 0, none⟩), .int .i64 t, .slice A2 xs.length c2] W (SpecP w base b r (sElem t xs s)) :=
  Calls.mono (selem_any b r s t A2 _ c2 xs W base B _ (g.grow ho) (Rd.of_own hx hown) (Nat.le_refl _) rfl ht hl) (fun _ _ h => SpecP.trans h (ho.more (by simp)) (OwnLe.refl _ _))

theorem sprim13 (n t : Int) (d o : List Int) (kids : Its) (Ad : Option Addr) (cd : Nat) (Ao : Option Addr) (co : Nat) (Ak : Option Addr) (ck : Nat) (w : World) (base b : Nat) (r : Value) (s : St) (B : Nat) (g : SGood w base b r s B) (hi : ItemRd w B n t d o kids Ad Ao Ak) (hl : s.out.length + (24 + d.length + 5 * o.length) ≤ 4000000) :
    Calls Try.prog 39 #[.pointer (some ⟨b, 0, none⟩), itemV 13 n t d o kids Ad cd Ao co Ak ck] w (SpecP w base b r (sElem 2 (octs n) s)) := by
  have hlen := octs_len n
  have h8 := (iL_is n hi.rn.1 hi.rn.2).1
  obtain ⟨n0, n1⟩ := hi.rn
  have HW := Lib.hid (fun W => intContents_any n W (by omega) (by omega))
  have HE := Lib.hid (fun W A2 c2 (ho : Only [] w W) hown => selem_new (w0 := w.alloc (.cells #[.int .i64 13, .int .i64 n, .int .i64 t, .slice Ad d.length cd, .slice Ao o.length co, .slice Ak kids.len ck] 37)) (t := 2) g (by decide) (xs := (octs n)) (by omega) (octs_byt n) W A2 c2 ho hown)
  have hu : IntKind.u64.wrap n = n % 18446744073709551616 := by simp [IntKind.wrap, IntKind.bits, IntKind.signed]
  have HNW : Hid (w.heap.size ∉ b :: own r) := Lib.hid (by
    have h1 := g.sb.lt
    intro hm
    rcases List.mem_cons.1 hm with h | h
    · omega
    · rcases g.row.2.2 with ⟨e, _⟩ | ⟨q, cap, cur, e, _, hg, _⟩
      · rw [e] at h; simp [own, Value.ownBlock] at h
      · rw [e] at h
        simp only [own, Value.ownBlock, Option.toList_some, List.mem_singleton] at h
        have := lt_of_block hg
        omega)
  clear g hi hl hlen h8
  unfold itemV
  go_enter Try.func39, Try.ntmps39
  go_wp2_with fail
  refine (HW.out _).mono ?_
  rintro e w1 ⟨A2, c2, rfl, hc, hm, hown, hk⟩
  have H2 := Lib.hid (HE.out w1 A2 c2 (((Only.refl _ _).alloc _).trans hk) hown)
  clear hc hm hown hk HW HE
  go_wp2_with fail
  refine H2.out.mono ?_
  intro e w2 h
  obtain rfl : e = .returned (.tuple #[]) := h.1
  have HQ := Lib.hid h
  clear h H2
  go_wp2_with fail
  go_end0
  exact HQ.out

theorem sprim14 (n t : Int) (d o : List Int) (kids : Its) (Ad : Option Addr) (cd : Nat) (Ao : Option Addr) (co : Nat) (Ak : Option Addr) (ck : Nat) (w : World) (base b : Nat) (r : Value) (s : St) (B : Nat) (g : SGood w base b r s B) (hi : ItemRd w B n t d o kids Ad Ao Ak) (hl : s.out.length + (24 + d.length + 5 * o.length) ≤ 4000000) :
    Calls Try.prog 39 #[.pointer (some ⟨b, 0, none⟩), itemV 14 n t d o kids Ad cd Ao co Ak ck] w (SpecP w base b r (sElem t (octs n) s)) := by
  have hlen := octs_len n
  have h8 := (iL_is n hi.rn.1 hi.rn.2).1
  obtain ⟨n0, n1⟩ := hi.rn
  have HW := Lib.hid (fun W => intContents_any n W (by omega) (by omega))
  have HE := Lib.hid (fun W A2 c2 (ho : Only [] w W) hown => selem_new2 (w0 := w.alloc (.cells #[.int .i64 14, .int .i64 n, .int .i64 t, .slice Ad d.length cd, .slice Ao o.length co, .slice Ak kids.len ck] 37)) (t := t) g hi.rt (xs := (octs n)) (by omega) (octs_byt n) W A2 c2 ho hown)
  have hu : IntKind.u64.wrap n = n % 18446744073709551616 := by simp [IntKind.wrap, IntKind.bits, IntKind.signed]
  have HNW : Hid (w.heap.size ∉ b :: own r) := Lib.hid (by
    have h1 := g.sb.lt
    intro hm
    rcases List.mem_cons.1 hm with h | h
    · omega
    · rcases g.row.2.2 with ⟨e, _⟩ | ⟨q, cap, cur, e, _, hg, _⟩
      · rw [e] at h; simp [own, Value.ownBlock] at h
      · rw [e] at h
        simp only [own, Value.ownBlock, Option.toList_some, List.mem_singleton] at h
        have := lt_of_block hg
        omega)
  clear g hi hl hlen h8
  unfold itemV
  go_enter Try.func39, Try.ntmps39
  go_wp2_with fail
  have hcx : (w.alloc (.cells #[.int .i64 14, .int .i64 n, .int .i64 t, .slice Ad d.length cd, .slice Ao o.length co, .slice Ak kids.len ck] 37)).cell? ⟨w.heap.size, 2, none⟩ = some (.int .i64 t) := cell_of_row (w.alloc (.cells #[.int .i64 14, .int .i64 n, .int .i64 t, .slice Ad d.length cd, .slice Ao o.length co, .slice Ak kids.len ck] 37)) w.heap.size 2 _ _ _ (heap_alloc_new w (.cells #[.int .i64 14, .int .i64 n, .int .i64 t, .slice Ad d.length cd, .slice Ao o.length co, .slice Ak kids.len ck] 37))
  have hcy : (w.alloc (.cells #[.int .i64 14, .int .i64 n, .int .i64 t, .slice Ad d.length cd, .slice Ao o.length co, .slice Ak kids.len ck] 37)).cell? ⟨w.heap.size, 1, none⟩ = some (.int .i64 n) := cell_of_row (w.alloc (.cells #[.int .i64 14, .int .i64 n, .int .i64 t, .slice Ad d.length cd, .slice Ao o.length co, .slice Ak kids.len ck] 37)) w.heap.size 1 _ _ _ (heap_alloc_new w (.cells #[.int .i64 14, .int .i64 n, .int .i64 t, .slice Ad d.length cd, .slice Ao o.length co, .slice Ak kids.len ck] 37))
  have HLT : Hid (w.heap.size < (w.alloc (.cells #[.int .i64 14, .int .i64 n, .int .i64 t, .slice Ad d.length cd, .slice Ao o.length co, .slice Ak kids.len ck] 37)).heap.size) := Lib.hid (by simp)
  go_region_held3 (fun w' => w'.cell? ⟨w.heap.size, 2, none⟩ = some (.int .i64 t) ∧ w'.cell? ⟨w.heap.size, 1, none⟩ = some (.int .i64 n)) (first | exact ⟨hcx2, hcy2⟩ | exact ⟨hcx1, hcy1⟩ | exact ⟨hcx, hcy⟩) ((first | (go_at_call 70; refine (HW.out _).mono ?_; rintro e w1 ⟨A2, c2, rfl, hc, hm, hown, hk⟩; have hcx1 := (hk.cell (p := ⟨w.heap.size, 2, none⟩) HLT.out (by simp)).trans hcx; have hcy1 := (hk.cell (p := ⟨w.heap.size, 1, none⟩) HLT.out (by simp)).trans hcy; have HK1 := Lib.hid hk; have H2 := Lib.hid (HE.out w1 A2 c2 (by first | exact ((Only.refl _ _).alloc _).trans hk | exact ((Only.refl _ _).alloc _).drew.trans hk) hown); clear hc hm hown hk) | (go_at_call 38; refine H2.out.mono ?_; intro e w2 h; obtain rfl : e = .returned (.tuple #[]) := h.1.1; have hcx2 := (h.2.cell (p := ⟨w.heap.size, 2, none⟩) (Nat.lt_of_lt_of_le HLT.out HK1.out.size) HNW.out).trans hcx1; have hcy2 := (h.2.cell (p := ⟨w.heap.size, 1, none⟩) (Nat.lt_of_lt_of_le HLT.out HK1.out.size) HNW.out).trans hcy1; have HQ := Lib.hid h.1; clear h)))
  all_goals
    go_wp2_with fail
    go_end0
    exact HQ.out

theorem sprim16 (n t : Int) (d o : List Int) (kids : Its) (Ad : Option Addr) (cd : Nat) (Ao : Option Addr) (co : Nat) (Ak : Option Addr) (ck : Nat) (w : World) (base b : Nat) (r : Value) (s : St) (B : Nat) (g : SGood w base b r s B) (hi : ItemRd w B n t d o kids Ad Ao Ak) (hl : s.out.length + (24 + d.length + 5 * o.length) ≤ 4000000) :
    Calls Try.prog 39 #[.pointer (some ⟨b, 0, none⟩), itemV 16 n t d o kids Ad cd Ao co Ak ck] w (SpecP w base b r (sElem 10 (octs n) s)) := by
  have hlen := octs_len n
  have h8 := (iL_is n hi.rn.1 hi.rn.2).1
  obtain ⟨n0, n1⟩ := hi.rn
  have HW := Lib.hid (fun W => intContents_any n W (by omega) (by omega))
  have HE := Lib.hid (fun W A2 c2 (ho : Only [] w W) hown => selem_new (w0 := w.alloc (.cells #[.int .i64 16, .int .i64 n, .int .i64 t, .slice Ad d.length cd, .slice Ao o.length co, .slice Ak kids.len ck] 37)) (t := 10) g (by decide) (xs := (octs n)) (by omega) (octs_byt n) W A2 c2 ho hown)
  have hu : IntKind.u64.wrap n = n % 18446744073709551616 := by simp [IntKind.wrap, IntKind.bits, IntKind.signed]
  have HNW : Hid (w.heap.size ∉ b :: own r) := Lib.hid (by
    have h1 := g.sb.lt
    intro hm
    rcases List.mem_cons.1 hm with h | h
    · omega
    · rcases g.row.2.2 with ⟨e, _⟩ | ⟨q, cap, cur, e, _, hg, _⟩
      · rw [e] at h; simp [own, Value.ownBlock] at h
      · rw [e] at h
        simp only [own, Value.ownBlock, Option.toList_some, List.mem_singleton] at h
        have := lt_of_block hg
        omega)
  clear g hi hl hlen h8
  unfold itemV
  go_enter Try.func39, Try.ntmps39
  go_wp2_with fail
  refine (HW.out _).mono ?_
  rintro e w1 ⟨A2, c2, rfl, hc, hm, hown, hk⟩
  have H2 := Lib.hid (HE.out w1 A2 c2 (((Only.refl _ _).alloc _).trans hk) hown)
  clear hc hm hown hk HW HE
  go_wp2_with fail
  refine H2.out.mono ?_
  intro e w2 h
  obtain rfl : e = .returned (.tuple #[]) := h.1
  have HQ := Lib.hid h
  clear h H2
  go_wp2_with fail
  go_end0
  exact HQ.out

theorem sprim15 (n t : Int) (d o : List Int) (kids : Its) (Ad : Option Addr) (cd : Nat) (Ao : Option Addr) (co : Nat) (Ak : Option Addr) (ck : Nat) (w : World) (base b : Nat) (r : Value) (s : St) (B : Nat) (g : SGood w base b r s B) (hi : ItemRd w B n t d o kids Ad Ao Ak) (hl : s.out.length + (24 + d.length + 5 * o.length) ≤ 4000000) :
    Calls Try.prog 39 #[.pointer (some ⟨b, 0, none⟩), itemV 15 n t d o kids Ad cd Ao co Ak ck] w (SpecP w base b r (sElem 2 (uocts (n % 18446744073709551616)) s)) := by
  have hlen := uocts_len (n % 18446744073709551616)
  have h8 := (uL_is (n % 18446744073709551616) (by omega) (by omega)).1
  obtain ⟨n0, n1⟩ := hi.rn
  have HW := Lib.hid (fun W => uintContents_any (n % 18446744073709551616) W (by omega) (by omega))
  have HE := Lib.hid (fun W A2 c2 (ho : Only [] w W) hown => selem_new (w0 := w.alloc (.cells #[.int .i64 15, .int .i64 n, .int .i64 t, .slice Ad d.length cd, .slice Ao o.length co, .slice Ak kids.len ck] 37)) (t := 2) g (by decide) (xs := (uocts (n % 18446744073709551616))) (by omega) (uocts_byt (n % 18446744073709551616)) W A2 c2 ho hown)
  have hu : IntKind.u64.wrap n = n % 18446744073709551616 := by simp [IntKind.wrap, IntKind.bits, IntKind.signed]
  have HNW : Hid (w.heap.size ∉ b :: own r) := Lib.hid (by
    have h1 := g.sb.lt
    intro hm
    rcases List.mem_cons.1 hm with h | h
    · omega
    · rcases g.row.2.2 with ⟨e, _⟩ | ⟨q, cap, cur, e, _, hg, _⟩
      · rw [e] at h; simp [own, Value.ownBlock] at h
      · rw [e] at h
        simp only [own, Value.ownBlock, Option.toList_some, List.mem_singleton] at h
        have := lt_of_block hg
        omega)
  clear g hi hl hlen h8
  unfold itemV
  go_enter Try.func39, Try.ntmps39
  go_wp2_with fail
  refine (HW.out _).mono ?_
  rintro e w1 ⟨A2, c2, rfl, hc, hm, hown, hk⟩
  have H2 := Lib.hid (HE.out w1 A2 c2 (((Only.refl _ _).alloc _).trans hk) hown)
  clear hc hm hown hk HW HE
  go_wp2_with fail
  refine H2.out.mono ?_
  intro e w2 h
  obtain rfl : e = .returned (.tuple #[]) := h.1
  have HQ := Lib.hid h
  clear h H2
  go_wp2_with fail
  go_end0
  exact HQ.out

set_option maxRecDepth 100000 in
theorem sprim17 (n t : Int) (d o : List Int) (kids : Its) (Ad : Option Addr) (cd : Nat) (Ao : Option Addr) (co : Nat) (Ak : Option Addr) (ck : Nat) (w : World) (base b : Nat) (r : Value) (s : St) (B : Nat) (g : SGood w base b r s B) (hi : ItemRd w B n t d o kids Ad Ao Ak) (hl : s.out.length + (24 + d.length + 5 * o.length) ≤ 4000000) :
    Calls Try.prog 39 #[.pointer (some ⟨b, 0, none⟩), itemV 17 n t d o kids Ad cd Ao co Ak ck] w (SpecP w base b r (sElem 5 [] s)) := by
  obtain ⟨n0, n1⟩ := hi.rn
  have H2 := Lib.hid (Calls.mono (selem_any b r s 5 none 0 0 [] (w.alloc (.cells #[.int .i64 17, .int .i64 n, .int .i64 t, .slice Ad d.length cd, .slice Ao o.length co, .slice Ak kids.len ck] 37)) base B 0 (g.grow ((Only.refl _ _).alloc _)) (Rd.nil _ _ _) (Nat.zero_le _) rfl (by decide) (by simp; omega)) (fun _ _ h => SpecP.trans (w := w) h ((Only.refl _ _).alloc _) (OwnLe.refl _ _)))
  clear g hi hl
  unfold itemV
  go_enter Try.func39, Try.ntmps39
  go_wp2_with fail
  refine H2.out.mono ?_
  intro e w2 h
  obtain rfl : e = .returned (.tuple #[]) := h.1
  have HQ := Lib.hid h
  clear h H2
  go_wp2_with fail
  go_end0
  exact HQ.out

set_option maxRecDepth 100000 in
theorem sprim18 (n t : Int) (d o : List Int) (kids : Its) (Ad : Option Addr) (cd : Nat) (Ao : Option Addr) (co : Nat) (Ak : Option Addr) (ck : Nat) (w : World) (base b : Nat) (r : Value) (s : St) (B : Nat) (g : SGood w base b r s B) (hi : ItemRd w B n t d o kids Ad Ao Ak) (hl : s.out.length + (24 + d.length + 5 * o.length) ≤ 4000000) :
    Calls Try.prog 39 #[.pointer (some ⟨b, 0, none⟩), itemV 18 n t d o kids Ad cd Ao co Ak ck] w (SpecP w base b r (sElem 4 d s)) := by
  obtain ⟨n0, n1⟩ := hi.rn
  have hdl := hi.dl
  have H2 := Lib.hid (Calls.mono (selem_any b r s 4 Ad d.length cd d (w.alloc (.cells #[.int .i64 18, .int .i64 n, .int .i64 t, .slice Ad d.length cd, .slice Ao o.length co, .slice Ak kids.len ck] 37)) base B B (g.grow ((Only.refl _ _).alloc _)) (hi.rd.only ((Only.refl _ _).alloc _) (by simp : ∀ k ∈ ([] : List Nat), B ≤ k) g.hB) (by have := g.hB; simp; omega) rfl (by decide) (by omega)) (fun _ _ h => SpecP.trans (w := w) h ((Only.refl _ _).alloc _) (OwnLe.refl _ _)))
  clear g hi hl hdl
  unfold itemV
  go_enter Try.func39, Try.ntmps39
  go_wp2_with fail
  refine H2.out.mono ?_
  intro e w2 h
  obtain rfl : e = .returned (.tuple #[]) := h.1
  have HQ := Lib.hid h
  clear h H2
  go_wp2_with fail
  go_end0
  exact HQ.out

set_option maxRecDepth 100000 in
theorem sprim12 (n t : Int) (d o : List Int) (kids : Its) (Ad : Option Addr) (cd : Nat) (Ao : Option Addr) (co : Nat) (Ak : Option Addr) (ck : Nat) (w : World) (base b : Nat) (r : Value) (s : St) (B : Nat) (g : SGood w base b r s B) (hi : ItemRd w B n t d o kids Ad Ao Ak) (hl : s.out.length + (24 + d.length + 5 * o.length) ≤ 4000000) :
    Calls Try.prog 39 #[.pointer (some ⟨b, 0, none⟩), itemV 12 n t d o kids Ad cd Ao co Ak ck] w (SpecP w base b r (sElem 1 [if n = 1 then 255 else 0] s)) := by
  obtain ⟨n0, n1⟩ := hi.rn
  have HE := Lib.hid (fun (x : Int) (hx : 0 ≤ x ∧ x ≤ 255) => selem_new (t := 1) (xs := [x]) (w0 := w.alloc (.cells #[.int .i64 12, .int .i64 n, .int .i64 t, .slice Ad d.length cd, .slice Ao o.length co, .slice Ak kids.len ck] 37)) g (by decide) (by simp; omega) (by intro y hy; simp only [List.mem_singleton] at hy; omega) ((w.alloc (.cells #[.int .i64 12, .int .i64 n, .int .i64 t, .slice Ad d.length cd, .slice Ao o.length co, .slice Ak kids.len ck] 37)).alloc (.cells (([x] : List Int).map (Value.int .u8)).toArray 5)) (some ⟨(w.alloc (.cells #[.int .i64 12, .int .i64 n, .int .i64 t, .slice Ad d.length cd, .slice Ao o.length co, .slice Ak kids.len ck] 37)).heap.size, 0, none⟩) 1 (((Only.refl _ _).alloc _).alloc _) (Row.lit (w.alloc (.cells #[.int .i64 12, .int .i64 n, .int .i64 t, .slice Ad d.length cd, .slice Ao o.length co, .slice Ak kids.len ck] 37)) _ [x] (Nat.le_refl _) (by intro y hy; simp only [List.mem_singleton] at hy; omega) (by unfold maxLen; simp)).2)
  have hsz : (w.alloc (.cells #[.int .i64 12, .int .i64 n, .int .i64 t, .slice Ad d.length cd, .slice Ao o.length co, .slice Ak kids.len ck] 37)).heap.size = w.heap.size + 1 := by simp
  have H255 := HE.out 255 (by decide)
  have H0 := HE.out 0 (by decide)
  rw [hsz] at H255 H0
  replace H255 := Lib.hid H255
  replace H0 := Lib.hid H0
  clear g hi hl HE hsz
  unfold itemV
  by_cases hn : n = 1
  · subst hn
    have H2 := Lib.hid H255.out
    clear H0
    go_enter Try.func39, Try.ntmps39
    go_wp2_with fail
    refine H2.out.mono ?_
    intro e w2 h
    obtain rfl : e = .returned (.tuple #[]) := h.1
    have HQ := Lib.hid h
    clear h H2
    go_wp2_with fail
    go_end0
    exact HQ.out
  · rw [if_neg hn]
    clear H255
    go_enter Try.func39, Try.ntmps39
    go_wp2_with fail
    refine H0.out.mono ?_
    intro e w2 h
    obtain rfl : e = .returned (.tuple #[]) := h.1
    have HQ := Lib.hid h
    clear h H0
    go_wp2_with fail
    go_end0
    exact HQ.out

set_option maxRecDepth 100000 in
theorem sprim19 (n t : Int) (d o : List Int) (kids : Its) (Ad : Option Addr) (cd : Nat) (Ao : Option Addr) (co : Nat) (Ak : Option Addr) (ck : Nat) (w : World) (base b : Nat) (r : Value) (s : St) (B : Nat) (g : SGood w base b r s B) (hi : ItemRd w B n t d o kids Ad Ao Ak) (hl : s.out.length + (24 + d.length + 5 * o.length) ≤ 4000000) :
    Calls Try.prog 39 #[.pointer (some ⟨b, 0, none⟩), itemV 19 n t d o kids Ad cd Ao co Ak ck] w (SpecP w base b r (sElem 3 (0 :: d) s)) := by
  obtain ⟨n0, n1⟩ := hi.rn
  have hsz : (w.alloc (.cells #[.int .i64 19, .int .i64 n, .int .i64 t, .slice Ad d.length cd, .slice Ao o.length co, .slice Ak kids.len ck] 37)).heap.size = w.heap.size + 1 := by simp
  have HL : Row ((w.alloc (.cells #[.int .i64 19, .int .i64 n, .int .i64 t, .slice Ad d.length cd, .slice Ao o.length co, .slice Ak kids.len ck] 37)).alloc (.cells #[.int .u8 0] 5)) w.heap.size (.slice (some ⟨(w.alloc (.cells #[.int .i64 19, .int .i64 n, .int .i64 t, .slice Ad d.length cd, .slice Ao o.length co, .slice Ak kids.len ck] 37)).heap.size, 0, none⟩) 1 1) [0] := (Row.lit (w.alloc (.cells #[.int .i64 19, .int .i64 n, .int .i64 t, .slice Ad d.length cd, .slice Ao o.length co, .slice Ak kids.len ck] 37)) _ [0] (by simp) (by intro y hy; simp only [List.mem_singleton] at hy; omega) (by unfold maxLen; simp))
  rw [hsz] at HL
  replace HL := Lib.hid HL
  clear hsz
  have HX : Hid (Rd ((w.alloc (.cells #[.int .i64 19, .int .i64 n, .int .i64 t, .slice Ad d.length cd, .slice Ao o.length co, .slice Ak kids.len ck] 37)).alloc (.cells #[.int .u8 0] 5)) B Ad d) := Lib.hid (hi.rd.only (((Only.refl _ _).alloc _).alloc _) (by simp : ∀ k ∈ ([] : List Nat), B ≤ k) g.hB)
  have HD : Hid (d.length ≤ 4000000) := Lib.hid (by omega)
  have HE := Lib.hid (fun W A2 c2 (ho : Only [] w W) (hr : Row W w.heap.size (.slice A2 (0 :: d).length c2) (0 :: d)) => Calls.mono (selem_any b r s 3 A2 _ c2 (0 :: d) W base B _ (g.grow ho) (hr.rd rfl) (Nat.le_refl _) rfl (by decide) (by simp; omega)) (fun _ _ h => SpecP.trans h (ho.more (l' := b :: own r) (by simp)) (OwnLe.refl _ _)))
  clear g hi hl
  unfold itemV
  go_enter Try.func39, Try.ntmps39
  go_wp2_with (at_builtin; refine wpList_row rfl _ _ rfl rfl w.heap.size B _ [0] d Ad d.length cd rfl rfl HL.out HX.out rfl ?c1 ?c2 ?_)
  case c1 => simp <;> omega
  case c2 => have := HD.out; simp <;> omega
  intro v' w1 hr1 hk1 _
  have hk2 : Only [] w w1 := (((Only.refl _ _).alloc _).alloc _).then hk1 (by
    intro i hi hlt
    have := HL.out.low i hi
    omega)
  obtain ⟨Av, cv, hv', _, _, _⟩ := hr1.form
  subst hv'
  have H2 := Lib.hid (HE.out w1 Av cv hk2 hr1)
  clear hr1 hk1 hk2 HE HX HL
  go_wp2_with fail
  refine H2.out.mono ?_
  intro e w2 h
  obtain rfl : e = .returned (.tuple #[]) := h.1
  have HQ := Lib.hid h
  clear h H2
  go_wp2_with fail
  go_end0
  exact HQ.out

/-- What the reference makes of an object identifier. -/
theorem oidRight_facts {o : List Int} (h : oidRight o = true) : 2 ≤ o.length ∧ (∀ v ∈ o, 0 ≤ v ∧ v ≤ 2147483647) ∧ o.getD 0 0 ≤ 2 ∧ validOID o = true := by
  have h' := of_decide_eq_true h
  obtain ⟨h1, h2, h3, h4, h5, h6⟩ := h'
  have hall : ∀ v ∈ o, 0 ≤ v ∧ v ≤ 2147483647 := by
    intro v hv
    rcases o with _ | ⟨x, xs⟩
    · cases hv
    · rcases List.mem_cons.1 hv with rfl | hv
      · simp at h2 h3; omega
      · exact h6 v (by simpa using hv)
  refine ⟨h1, hall, h3, ?_⟩
  unfold validOID
  refine decide_eq_true ⟨h1, h3, ?_, fun v hv => (hall v hv).1⟩
  rintro ⟨a, b⟩
  have := h4 (by omega)
  omega

set_option maxRecDepth 100000 in
theorem sprim20 (n t : Int) (d o : List Int) (kids : Its) (Ad : Option Addr) (cd : Nat) (Ao : Option Addr) (co : Nat) (Ak : Option Addr) (ck : Nat) (w : World) (base b : Nat) (r : Value) (s : St) (B : Nat) (g : SGood w base b r s B) (hi : ItemRd w B n t d o kids Ad Ao Ak) (hl : s.out.length + (24 + d.length + 5 * o.length) ≤ 4000000) :
    Calls Try.prog 39 #[.pointer (some ⟨b, 0, none⟩), itemV 20 n t d o kids Ad cd Ao co Ak ck] w (SpecP w base b r (sOid o s)) := by
  obtain ⟨n0, n1⟩ := hi.rn
  have hol := hi.ol
  have HR := Lib.hid (fun W => fun (hk : Only [] (w.alloc (.cells #[.int .i64 20, .int .i64 n, .int .i64 t, .slice Ad d.length cd, .slice Ao o.length co, .slice Ak kids.len ck] 37)) W) => right_any Ao o.length co o W B (hi.ro.only (l := []) (((Only.refl _ _).alloc _).trans hk) (by simp) g.hB) rfl hol)
  unfold itemV
  by_cases hri : oidRight o = true
  · rw [show sOid o s = sElem 6 (oidC o) s from if_pos hri]
    obtain ⟨f1, f2, f3, f4⟩ := oidRight_facts hri
    have hlc := oidCs_len (xs := o) (cs := oidC o) (by unfold oidCs; rw [if_pos f4])
    have HW := Lib.hid (fun W (hk : Only [] (w.alloc (.cells #[.int .i64 20, .int .i64 n, .int .i64 t, .slice Ad d.length cd, .slice Ao o.length co, .slice Ak kids.len ck] 37)) W) => oidContents_any Ao o.length co o W B (hi.ro.only (l := []) (((Only.refl _ _).alloc _).trans hk) (by simp) g.hB) rfl (Nat.le_trans g.hB (((Only.refl _ _).alloc _).trans hk).size) hol f1 f2 f3)
    have HE := Lib.hid (fun W A2 c2 (ho : Only [] w W) hown => selem_new (w0 := w.alloc (.cells #[.int .i64 20, .int .i64 n, .int .i64 t, .slice Ad d.length cd, .slice Ao o.length co, .slice Ak kids.len ck] 37)) (t := 6) g (by decide) (xs := oidC o) (by omega) ((b128_byt _).append (b128s_byt _)) W A2 c2 ho hown)
    clear g hi hl hol f1 f2 f3 f4 hlc
    go_enter Try.func39, Try.ntmps39
    go_wp2_with fail
    refine (HR.out _ (Only.refl _ _)).mono ?_
    rintro e w1 ⟨rfl, rfl⟩
    rw [hri]
    go_wp2_with fail
    refine (HW.out _ (Only.refl _ _)).mono ?_
    rintro e w1 ⟨A2, c2, rfl, hc, hm, hown, hk⟩
    have H2 := Lib.hid (HE.out w1 A2 c2 (((Only.refl _ _).alloc _).trans hk) hown)
    generalize oidC o = cc at *
    clear hc hm hown hk HW HE HR
    go_wp2_with fail
    refine H2.out.mono ?_
    intro e w2 h
    obtain rfl : e = .returned (.tuple #[]) := h.1
    have HQ := Lib.hid h
    clear h H2
    go_wp2_with fail
    go_end0
    exact HQ.out
  · rw [show sOid o s = { s with fl := true } from if_neg hri]
    have hri' : oidRight o = false := by simpa using hri
    have hga := g.grow ((Only.refl _ _).alloc (.cells #[.int .i64 20, .int .i64 n, .int .i64 t, .slice Ad d.length cd, .slice Ao o.length co, .slice Ak kids.len ck] 37))
    have hc2 := hga.sb.c2
    have hf2 := hga.sb.free 2
    have HF := Lib.hid (SpecP.trans (w := w) (sfail hga) ((Only.refl _ _).alloc _) (OwnLe.refl _ _))
    clear g hga hi hl hol
    go_enter Try.func39, Try.ntmps39
    go_wp2_with fail
    refine (HR.out _ (Only.refl _ _)).mono ?_
    rintro e w1 ⟨rfl, rfl⟩
    rw [hri']
    go_wp2_with fail
    go_end0
    exact HF.out

end Go.Proofs.Ytlpmjahhdbcfiaa

/-! ### The reference's builder: the model; steps within: contract. -/
namespace Go.Proofs.Ytlpmjahhdbcfiaa
open Go.RowKit

def RunOK (its : Its) : Prop := ∀ (ins : Bool) (b : Nat) (r : Value) (s : St) (w : World) (base B : Nat) (A : Option Addr) (n c : Nat), SGood w base b r s B → ItsRd w B A its → n = its.len → Ok its ins → Rng its → s.out.length + wt its ≤ 4000000 →
  Calls Try.prog 20 #[.pointer (some ⟨b, 0, none⟩), .slice A n c] w (SpecP w base b r (sRun its s))
/-- What steps within leave. -/
def WithP (w : World) (base b : Nat) (r : Value) (s inn : St) (e : Ending) (w' : World) : Prop :=
  ∃ A c, e = .returned (.slice A inn.out.length c) ∧ Rd w' w'.heap.size A inn.out ∧ Only [b] w w' ∧ SbAt w' b r (sIn inn s) ∧ Row w' base r s.out
theorem SbAt.new (w : World) (s : St) : SbAt (w.alloc (.cells (SbC (.slice none 0 0) s) 45)) w.heap.size (.slice none 0 0) s := heap_alloc_new w _
set_option maxHeartbeats 1000000 in
theorem within_ok (kids : Its) (hk : RunOK kids) (ins : Bool) (b : Nat) (r : Value) (s : St) (w : World) (base B : Nat) (A : Option Addr) (n c : Nat) (g : SGood w base b r s B) (hi : ItsRd w B A kids) (hn : n = kids.len) (hok : Ok kids ins) (hrg : Rng kids) (hw : wt kids ≤ 4000000) :
    Calls Try.prog 37 #[.pointer (some ⟨b, 0, none⟩), .slice A n c] w (WithP w base b r s (sRun kids St.nil)) := by
  have g1 : SGood (w.alloc (.cells (SbC (.slice none 0 0) St.nil) 45)) w.heap.size w.heap.size (.slice none 0 0) St.nil B :=
    ⟨SbAt.new w St.nil, Row.nil _ _, by simp, Nat.le_refl _, by intro k hk; simp [own, Value.ownBlock] at hk; have := g.hB; omega, by have := g.hB; simp; omega⟩
  have H := Lib.hid (hk ins w.heap.size (.slice none 0 0) St.nil (w.alloc (.cells (SbC (.slice none 0 0) St.nil) 45)) w.heap.size B A n c g1 (hi.only (l := []) ((Only.refl _ _).alloc _) (by simp) g.hB) hn hok hrg (by simp [St.nil]; omega))
  obtain ⟨inn, hinn⟩ : ∃ inn, sRun kids St.nil = inn := ⟨_, rfl⟩
  rw [hinn] at H ⊢
  have HG := Lib.hid g
  have hne : b ≠ w.heap.size := Nat.ne_of_lt g.sb.lt
  have HNE := Lib.hid hne
  clear g g1 hi hn hok hrg hw hk hinn hne
  go_enter Try.func37, Try.ntmps37
  go_wp2_with fail
  refine H.out.mono ?_
  rintro e w1 ⟨rfl, ho, r1, h1, h2, h3, h4⟩
  have ho' : Only [] w w1 := ((Only.refl _ _).alloc _).then ho (by intro k hk hlt; simp [own, Value.ownBlock] at hk; omega)
  have hb := HG.out.sb.only ho' (by simp)
  have c2 := hb.c2
  have c3 := hb.c3
  have f2 := hb.free 2
  have f3 := hb.free 3
  have n2 := h1.c2
  have n3 := h1.c3
  obtain ⟨A2, cap2, hr2, hcc, hmm, _⟩ := h2.form
  have n0 := h1.c0
  rw [hr2] at n0
  rw [hr2] at h2
  have HQ : Hid (∀ x y, x = (s.fl || inn.fl) → y = (s.wr || inn.wr) → WithP w base b r s inn (.returned (.slice A2 inn.out.length cap2)) ((w1.setCell ⟨b, 2, none⟩ (.bool x)).setCell ⟨b, 3, none⟩ (.bool y))) := Lib.hid (fun x y hx hy => by
    subst hx hy
    have hbr : b ∉ own r := HG.out.row.ne HG.out.sb (by decide)
    have hb1 : SbAt w1 b r s := hb
    have ho2 : Only [b] w1 ((w1.setCell ⟨b, 2, none⟩ (.bool (s.fl || inn.fl))).setCell ⟨b, 3, none⟩ (.bool (s.wr || inn.wr))) := ((Only.refl _ _).setCell (.inl (by simp)) _).setCell (.inl (by simp)) _
    have hb2 : b ∉ own (.slice A2 inn.out.length cap2) := h2.ne hb1 (by decide)
    refine ⟨A2, cap2, rfl, (h2.only ho2 (by intro k hk; simp only [List.mem_singleton] at hk; subst hk; exact hb2)).rd rfl, (ho'.more (by simp)).trans ho2, (hb1.set2 _).set3 _, ?_⟩
    exact (HG.out.row.only (l := []) ho' (by simp)).only ho2 (by intro k hk; simp only [List.mem_singleton] at hk; subst hk; exact hbr))
  have hne := HNE.out
  have hne' := Ne.symm hne
  clear ho h1 h2 h3 h4 ho' hb hr2 hcc hmm H HG
  generalize s.fl = sf at *
  generalize s.wr = sw at *
  generalize inn.fl = nf at *
  generalize inn.wr = nw at *
  cases sf <;> cases sw <;> cases nf <;> cases nw
  all_goals
    go_wp2_with fail
    go_ret
    exact HQ.out _ _ rfl rfl

end Go.Proofs.Ytlpmjahhdbcfiaa

/-! ### The reference's builder: values: contract. -/
namespace Go.Proofs.Ytlpmjahhdbcfiaa
open Go.RowKit

set_option maxHeartbeats 1000000 in
theorem svalue_ok (k : Int) (hkk : k = 24 ∨ k = 25) (n t : Int) (d o : List Int) (kids : Its) (Ad : Option Addr) (cd : Nat) (Ao : Option Addr) (co : Nat) (Ak : Option Addr) (ck : Nat) (hk : RunOK kids) (ins : Bool) (w : World) (base b : Nat) (r : Value) (s : St) (B : Nat) (g : SGood w base b r s B) (hi : ItemRd w B n t d o kids Ad Ao Ak) (hok : Ok kids ins) (hrg : Rng kids) (hl : s.out.length + wt kids ≤ 4000000) :
    Calls Try.prog 41 #[.pointer (some ⟨b, 0, none⟩), itemV k n t d o kids Ad cd Ao co Ak ck] w (SpecP w base b r { sRun kids s with fl := (sRun kids s).fl || decide (k = 25) }) := by
  have g1 := g.grow ((Only.refl _ _).alloc (.cells #[.int .i64 k, .int .i64 n, .int .i64 t, .slice Ad d.length cd, .slice Ao o.length co, .slice Ak kids.len ck] 37))
  have i1 := hi.alloc g.hB (.cells #[.int .i64 k, .int .i64 n, .int .i64 t, .slice Ad d.length cd, .slice Ao o.length co, .slice Ak kids.len ck] 37)
  have H := Lib.hid (hk ins b r s _ base B Ak kids.len ck g1 i1.rk rfl hok hrg hl)
  obtain ⟨on, hon⟩ : ∃ on, sRun kids s = on := ⟨_, rfl⟩
  rw [hon] at H ⊢
  have HG := Lib.hid g
  have HG1 := Lib.hid g1
  have HNW : Hid (w.heap.size ∉ b :: own r) := Lib.hid (by
    have h1 := g.sb.lt
    intro hm
    rcases List.mem_cons.1 hm with h | h
    · omega
    · rcases g.row.2.2 with ⟨e, _⟩ | ⟨q, cap, cur, e, _, hg, _⟩
      · rw [e] at h; simp [own, Value.ownBlock] at h
      · rw [e] at h
        simp only [own, Value.ownBlock, Option.toList_some, List.mem_singleton] at h
        have := lt_of_block hg
        omega)
  have hne : b ≠ w.heap.size := Nat.ne_of_lt g.sb.lt
  have hnew := heap_alloc_new w (.cells #[.int .i64 k, .int .i64 n, .int .i64 t, .slice Ad d.length cd, .slice Ao o.length co, .slice Ak kids.len ck] 37)
  have HN := Lib.hid hnew
  clear g g1 i1 hi hok hrg hl hk hon hnew
  unfold itemV
  go_enter Try.func41, Try.ntmps41
  go_wp2_with fail
  refine H.out.mono ?_
  rintro e w1 ⟨rfl, ho, r1, h1, h2, h3, h4⟩
  have c2 := h1.c2
  have f2 := h1.free 2
  have hkc : w1.cell? ⟨w.heap.size, 0, none⟩ = some (.int .i64 k) := cell_of_row w1 _ 0 _ _ _ ((ho.block _ (lt_of_block HN.out) HNW.out).trans HN.out)
  have HQ : Hid (∀ x, x = (on.fl || decide (k = 25)) → SpecP w base b r { on with fl := on.fl || decide (k = 25) } (.returned (.tuple #[])) (w1.setCell ⟨b, 2, none⟩ (.bool x))) := Lib.hid (fun x hx => by
    subst hx
    have hb2 : b ∉ own r1 := h2.ne h1 (by decide)
    have ho1 : Only (b :: own r) w w1 := ((Only.refl _ _).alloc _).then ho (fun k hk _ => hk)
    have ho2 : Only [b] w1 (w1.setCell ⟨b, 2, none⟩ (.bool (on.fl || decide (k = 25)))) := (Only.refl _ _).setCell (.inl (by simp)) _
    refine ⟨rfl, ho1.setCell (.inl (by simp)) _, r1, h1.set2 _, h2.only ho2 (by intro k hk; simp only [List.mem_singleton] at hk; subst hk; exact hb2), ?_, h4⟩
    intro x hx
    rcases h3 x hx with h | h
    · exact .inl h
    · right; have : w.heap.size ≤ (w.alloc (.cells #[.int .i64 k, .int .i64 n, .int .i64 t, .slice Ad d.length cd, .slice Ao o.length co, .slice Ak kids.len ck] 37)).heap.size := by simp
      omega)
  clear ho h1 h2 h3 h4 H HG HG1 HN HNW
  generalize hof : on.fl = of' at *
  rcases hkk with rfl | rfl
  · cases of'
    all_goals
      go_wp2_with fail
      go_end0
      exact HQ.out _ rfl
  · cases of'
    all_goals
      go_wp2_with fail
      go_end0
      exact HQ.out _ rfl

end Go.Proofs.Ytlpmjahhdbcfiaa
