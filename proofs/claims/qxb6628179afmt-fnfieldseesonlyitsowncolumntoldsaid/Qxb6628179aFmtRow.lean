import Derived.Test.Qxb6628179aFmtBytes
import Derived.Maps.OwnSet
namespace Go.Proofs.Qxb6628179aFmt
open Go.RowKit Go.Maps

theorem law : Keyed Tryf.prog 9 := string_keyed Tryf.underlying9
theorem zero3 (w : World) : (zeroValue 3).run Tryf.prog w = .ok (.int .i64 0) w := by kernel_rfl
theorem cells29 : Tryf.prog.cellsOf 29 = 4 := by kernel_rfl

/-- What the row's map says of a name: it is there, and its element is j. -/
def Tells (D : DataW Unit) (s : ByteArray) (j : Nat) : Prop := Maps.has D (.string s.data.toList) = true ∧ D.atKey (.string s.data.toList) (.lit (.int .i64 0)) = .lit (.int .i64 (j : Int))

theorem hasKey {s : ByteArray} (hs : s.size ≤ maxLen) : keyOf Tryf.prog 9 (.string s) = some (.string s.data.toList) := WideMaps.keyOf_string_mk Tryf.underlying9 hs

set_option maxHeartbeats 400000 in
theorem newRow (line : Int) (path : ByteArray) (fo : Option Addr) (n c b : Nat) (w : World) :
    Calls Tryf.prog 8 #[.int .i64 line, .string path, .slice fo n c, .map (some b)] w fun e w' =>
      e = .returned (.agg #[.int .i64 line, .string path, .slice fo n c, .map (some b)]) ∧ w' = w.alloc (.cells #[.int .i64 line, .string path, .slice fo n c, .map (some b)] 29) := by
  go_enter Tryf.func8, Tryf.ntmps8
  go_wp2
  exact bodyPost_ret (v := .agg #[.int .i64 line, .string path, .slice fo n c, .map (some b)]) (by simp [results, Tryf.results8, go_sem]) rfl ⟨rfl, rfl⟩

set_option maxHeartbeats 400000 in
theorem field (line : Int) (path s t : ByteArray) (fo : Option Addr) (n c b nn j : Nat) (D : DataW Unit) (fa : Addr) (w : World) (hs : s.size ≤ maxLen) (hown : w.ownsMap Tryf.prog 9 (plainElem Tryf.prog 3) b nn D)
    (hT : Tells D s j) (hix : ∀ w1 : World, (Instr.indexAt 22 (.slice fo n c) (.int .i64 (j : Int))).run Tryf.prog w1 = .ok (.pointer (some fa)) w1) (hc : w.cell? fa = some (.string t)) (hfa : fa.block < w.heap.size) :
    Calls Tryf.prog 9 #[.agg #[.int .i64 line, .string path, .slice fo n c, .map (some b)], .string s] w fun e w' =>
      e = .returned (.string t) ∧ w' = w.alloc (.cells #[.int .i64 line, .string path, .slice fo n c, .map (some b)] 29) := by
  have hkey := hasKey hs
  obtain ⟨hh, hat⟩ := hT
  have HT : Hid (D.atKey (.string s.data.toList) (.lit (.int .i64 0)) = .lit (.int .i64 (j : Int))) := hat
  clear hat
  go_enter Tryf.func9, Tryf.ntmps9
  go_wp2_with (first | (at_lookup; refine wpList_lookup_own_ok_int _ rfl _ _ 25 rfl 9 3 .i64 law Tryf.underlying25 Tryf.underlying3 (zero3 _) b nn _ rfl (hown.alloc _) _ _ rfl hkey ?_; intro c1 hat1 hwc1; obtain rfl : c1 = (j : Int) := (by rw [HT.out] at hat1; simpa using hat1.symm)) | go_in)
  go_ret
  exact ⟨rfl, rfl⟩

end Go.Proofs.Qxb6628179aFmt
