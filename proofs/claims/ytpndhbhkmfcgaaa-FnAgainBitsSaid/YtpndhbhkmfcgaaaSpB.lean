/- The reference's Big, Header, Wrapped, and bytes with others behind them: contracts. -/
import Derived.Test.YtpndhbhkmfcgaaaBl1
import Derived.Test.YtpndhbhkmfcgaaaEnc
import Derived.Laws.OwnMore
namespace Go.Proofs.Ytpndhbhkmfcgaaa
open Go.RowKit

theorem Row.copied {w w' : World} {A : Option Addr} {c : Nat} {xs : List Int} (h : Row w' w.heap.size (.slice A xs.length c) xs) (hk : Only [] w w') : Copied w xs (.returned (.slice A xs.length c)) w' := by
  obtain ⟨A', c', e, h1, h2, _⟩ := h.form
  injection e with e1 e2 e3
  subst e1 e3
  exact ⟨_, _, rfl, h1, h2, h.2, hk⟩
theorem Row.copied' {w w' : World} {v : Value} {xs : List Int} (h : Row w' w.heap.size v xs) (hk : Only [] w w') : Copied w xs (.returned v) w' := by
  obtain ⟨A', c', rfl, _⟩ := h.form
  exact h.copied hk
theorem Row.alloc {w : World} {base : Nat} {v : Value} {xs : List Int} (h : Row w base v xs) (o : Obj) : Row (w.alloc o) base v xs := ⟨h.1, h.2.alloc o⟩
theorem Row.drew {w : World} {base : Nat} {v : Value} {xs : List Int} (h : Row w base v xs) : Row w.drew base v xs := ⟨h.1, h.2⟩
theorem Row.lit (w : World) (base : Nat) (xs : List Int) (hb : base ≤ w.heap.size) (hx : Byt xs) (hm : xs.length ≤ maxLen) :
    Row (w.alloc (.cells (xs.map (Value.int .u8)).toArray 5)) base (.slice (some ⟨w.heap.size, 0, none⟩) xs.length xs.length) xs := by
  refine ⟨hx, ?_⟩
  have := World.ownsRow_lit (base := base) (e := 5) (size := 1) w (xs.map (Value.int .u8)).toArray xs.length hb hm (by simp)
  simpa using this


theorem behind_any (A A' : Option Addr) (n n' c c' : Nat) (xs ys : List Int) (w : World) (B B' : Nat) (h : Rd w B A xs) (h' : Rd w B' A' ys) (hB : B ≤ w.heap.size) (hB' : B' ≤ w.heap.size) (hn : n = xs.length) (hn' : n' = ys.length) (hl : xs.length + ys.length ≤ 140737488355328) :
    Calls Try.prog 12 #[.slice A n c, .slice A' n' c'] w (Copied w (xs ++ ys)) := by
  subst hn hn'
  have HS := Lib.hid (Row.lit w w.heap.size [] (Nat.le_refl _) Byt.nil (by simp))
  have HX := Lib.hid (h.alloc hB (.cells (([] : List Int).map (Value.int .u8)).toArray 5))
  have HY := Lib.hid (h'.alloc hB' (.cells (([] : List Int).map (Value.int .u8)).toArray 5))
  have HL := Lib.hid hl
  have HBB := Lib.hid (And.intro hB hB')
  clear h h' hB hB' hl
  go_enter Try.func12, Try.ntmps12
  go_wp2_with (at_builtin; refine wpList_row rfl (.tmp 5) (.tmp 6) rfl rfl w.heap.size B _ [] xs A xs.length c rfl rfl HS.out HX.out rfl ?c1 ?c2 ?_)
  case c1 => simp
  case c2 => have := HL.out; simp; omega
  intro v' w1 hr1 hk1 hat
  have hk1' : Only [] w w1 := ((Only.refl _ _).alloc _).then hk1 (by
    intro i hi hlt
    simp [own, Value.ownBlock] at hi
    omega)
  have HY1 : Hid (Rd w1 B' A' ys) := Lib.hid (HY.out.only hk1 (by
    intro i hi
    have := HBB.out
    simp [own, Value.ownBlock] at hi
    omega) (by have := HBB.out; simp; omega))
  have HR1 := Lib.hid hr1
  have HK1 := Lib.hid hk1'
  clear hr1 hk1 hk1' hat HY HX HS
  go_wp2_with (at_builtin; refine wpList_row rfl (.tmp 7) (.tmp 8) rfl rfl w.heap.size B' v' _ ys A' ys.length c' rfl rfl HR1.out HY1.out rfl ?d1 ?d2 ?_)
  case d1 => exact HK1.out.size
  case d2 => have := HL.out; simp; omega
  intro v2 w2 hr2 hk2 _
  have HR2 := Lib.hid hr2
  have HK2 : Hid (Only [] w w2) := Lib.hid (HK1.out.then hk2 (by
    intro i hi hlt
    have := HR1.out.low i hi
    omega))
  clear hr2 hk2
  go_wp2_with fail
  go_ret
  exact HR2.out.copied' HK2.out


end Go.Proofs.Ytpndhbhkmfcgaaa
