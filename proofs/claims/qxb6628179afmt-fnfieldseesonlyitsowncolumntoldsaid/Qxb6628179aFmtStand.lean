import Derived.Test.Qxb6628179aFmtBytes2
import Derived.Test.Qxb6628179aFmtIndex
import Derived.Laws.CopyOwn
import Derived.Deep.OwnRows
import Derived.Deep.RegionHeld3
namespace Go.Proofs.Qxb6628179aFmt
open Go.RowKit Go.Maps

theorem info9 : (Tryf.prog.info? 9).map (fun i => (i.zero, i.size, i.bytes)) = some (some (.string ByteArray.empty), 1, 16) := by kernel_rfl
theorem size9 : (Tryf.prog.info? 9).map (·.size) = some 1 := by kernel_rfl

/-- 'zzc := make([]string, len(fields)); copy(zzc, fields)'. -/
theorem copied (w : World) (fa : Addr) (n mc : Nat) (T : Nat → ByteArray) (hc : ∀ k, k < n → w.cell? (fa.add k) = some (.string (T k))) (hb : ∀ k, k < n → (fa.add k).block < w.heap.size) :
    ∃ W2 : World, (∀ ty, (Builtin.copy_ #[22, 22] ty #[.slice (some ⟨w.heap.size, 0, none⟩) n n, .slice (some fa) n mc]).run Tryf.prog (w.alloc (.cells (madeCells #[.string ByteArray.empty] n) 9)) = .ok (goInt n) W2) ∧
      Below w.heap.size w W2 ∧ W2.heap.size = w.heap.size + 1 ∧ ∀ k, k < n → W2.cell? ⟨w.heap.size, k, none⟩ = some (.string (T k)) := by
  have hg : (w.alloc (.cells (madeCells #[.string ByteArray.empty] n) 9)).heap[w.heap.size]? = some (.cells (madeCells #[.string ByteArray.empty] n) 9 (0, 0)) := by
    show (w.heap.push _)[w.heap.size]? = _
    simp
  have hrun := fun ty => run_copy_row (P := Tryf.prog) (w.alloc (.cells (madeCells #[.string ByteArray.empty] n) 9)) 22 22 ty 9 w.heap.size 0 n n fa n mc _ 9 ((List.range n).map fun k => .string (T k)) Tryf.underlying22 size9 hg (by simp)
    (by
      intro j v hj
      rw [List.getElem?_map] at hj
      obtain ⟨k, hk, rfl⟩ := Option.map_eq_some_iff.1 hj
      obtain ⟨hk1, rfl⟩ := List.getElem?_eq_some_iff.1 hk
      simp at hk1 ⊢
      rw [World.cell?_alloc_lt _ _ _ (hb j hk1)]
      exact hc j hk1)
    (by simp [size_madeCells]) (by simp; intro k _; rfl)
  have hl : ((List.range n).map fun k => Value.string (T k)).length = n := by simp
  rw [hl] at hrun
  refine ⟨_, hrun, ?_, ?_, ?_⟩
  · exact below_setRow ((Below.refl _ _).alloc (Nat.le_refl _) _) (Nat.le_refl _) _
  · simp [World.setRow]
  · intro k hk
    rw [cell_setRow_same _ _ _ _ _ _ _ hg]
    simp [hk, size_madeCells]


theorem Sees.below {w w' : World} {ao : Option Addr} {len cap : Nat} {S : Nat → ByteArray} {AD : Nat → Addr} (h : Sees w ao len cap S AD) (hb : Below w.heap.size w w') : Sees w' ao len cap S AD :=
  ⟨h.ix, fun k hk => (hb.cell (h.old k hk)).trans (h.cell k hk), fun k hk => Nat.lt_of_lt_of_le (h.old k hk) hb.size⟩

/-- What stands while the law looks: nothing old has turned; the header's names; the copied fields at block g; the index at block bm. -/
structure Stand (w wr : World) (ao : Option Addr) (n nc : Nat) (S : Nat → ByteArray) (AD : Nat → Addr) (T : Nat → ByteArray) (g bm : Nat) (D : DataW Unit) : Prop where
  below : Below w.heap.size w wr
  hdr : Sees wr ao n nc S AD
  fld : Sees wr (some ⟨g, 0, none⟩) n n T (fun k => ⟨g, k, none⟩)
  own : wr.ownsMap Tryf.prog 9 (plainElem Tryf.prog 3) bm n D
  tells : ∀ j, j < n → Tells D (S j) j
  names : ∀ k, k < n → (S k).size ≤ maxLen

/-- A row that the law has laid at block br. -/
def RowAt (wr : World) (br : Nat) (line : Int) (path : ByteArray) (g n bm : Nat) : Prop :=
  wr.heap[br]? = some (.cells #[.int .i64 line, .string path, .slice (some ⟨g, 0, none⟩) n n, .map (some bm)] 29 (0, 0))

theorem RowAt.cells {wr : World} {br : Nat} {line : Int} {path : ByteArray} {g n bm : Nat} (h : RowAt wr br line path g n bm) :
    wr.cell? ⟨br, 0, none⟩ = some (.int .i64 line) ∧ wr.cell? ⟨br, 1, none⟩ = some (.string path) ∧ wr.cell? ⟨br, 2, none⟩ = some (.slice (some ⟨g, 0, none⟩) n n) ∧ wr.cell? ⟨br, 3, none⟩ = some (.map (some bm)) := by
  unfold RowAt at h
  simp [World.cell?, h]

theorem RowAt.lt {wr : World} {br : Nat} {line : Int} {path : ByteArray} {g n bm : Nat} (h : RowAt wr br line path g n bm) : br < wr.heap.size := (Array.getElem?_eq_some_iff.1 h).1
theorem RowAt.below {wr w' : World} {br : Nat} {line : Int} {path : ByteArray} {g n bm : Nat} (h : RowAt wr br line path g n bm) (hb : Below wr.heap.size wr w') : RowAt w' br line path g n bm := (hb.block br h.lt).trans h

theorem ownsMap_below {wr w' : World} {b n : Nat} {D : DataW Unit} (h : wr.ownsMap Tryf.prog 9 (plainElem Tryf.prog 3) b n D) (hb : Below wr.heap.size wr w') : w'.ownsMap Tryf.prog 9 (plainElem Tryf.prog 3) b n D := by
  obtain ⟨es, clock, h1, r⟩ := h
  exact ⟨es, clock, (hb.block b (Array.getElem?_eq_some_iff.1 h1).1).trans h1, r⟩

theorem Stand.next {w wr w' : World} {ao : Option Addr} {n nc : Nat} {S : Nat → ByteArray} {AD : Nat → Addr} {T : Nat → ByteArray} {g bm : Nat} {D : DataW Unit} (h : Stand w wr ao n nc S AD T g bm D) (hb : Below wr.heap.size wr w') : Stand w w' ao n nc S AD T g bm D :=
  ⟨h.below.trans (hb.mono h.below.size), h.hdr.below hb, h.fld.below hb, ownsMap_below h.own hb, h.tells, h.names⟩

theorem callField {w wr w' : World} {ao : Option Addr} {n nc : Nat} {S : Nat → ByteArray} {AD : Nat → Addr} {T : Nat → ByteArray} {g bm : Nat} {D : DataW Unit} {line : Int} {path : ByteArray} {k : Nat} (h : Stand w wr ao n nc S AD T g bm D) (hk : k < n) (hb : Below wr.heap.size wr w') :
    Calls Tryf.prog 9 #[.agg #[.int .i64 line, .string path, .slice (some ⟨g, 0, none⟩) n n, .map (some bm)], .string (S k)] w' fun e w'' =>
      e = .returned (.string (T k)) ∧ w'' = w'.alloc (.cells #[.int .i64 line, .string path, .slice (some ⟨g, 0, none⟩) n n, .map (some bm)] 29) :=
  have h' := h.next hb
  field line path (S k) (T k) _ n n bm n k D _ w' (h.names k hk) h'.own (h.tells k hk) (h'.fld.ix k hk) (h'.fld.cell k hk) (h'.fld.old k hk)

theorem MKfield {w wr : World} {ao : Option Addr} {n nc : Nat} {S : Nat → ByteArray} {AD : Nat → Addr} {T : Nat → ByteArray} {g bm br : Nat} {D : DataW Unit} {line : Int} {path : ByteArray} {k : Nat} (h : Stand w wr ao n nc S AD T g bm D) (hr : RowAt wr br line path g n bm) (hk : k < n) :
    Hid (∀ w', Below wr.heap.size wr w' → w'.cell? ⟨br, 0, none⟩ = some (.int .i64 line) ∧ w'.cell? ⟨br, 1, none⟩ = some (.string path) ∧ w'.cell? ⟨br, 2, none⟩ = some (.slice (some ⟨g, 0, none⟩) n n) ∧ w'.cell? ⟨br, 3, none⟩ = some (.map (some bm)) ∧ w'.cell? (AD k) = some (.string (S k)) ∧ w'.cell? ⟨g, k, none⟩ = some (.string (T k)) ∧ Hid (Below wr.heap.size wr w')) := by
  intro w' hb
  obtain ⟨c0, c1, c2, c3⟩ := (hr.below hb).cells
  have h' := h.next hb
  exact ⟨c0, c1, c2, c3, h'.hdr.cell k hk, h'.fld.cell k hk, hb⟩

theorem rowAt_new (w3 : World) (o : Obj) (line : Int) (path : ByteArray) (g n bm : Nat) : RowAt ((w3.alloc o).alloc (.cells #[.int .i64 line, .string path, .slice (some ⟨g, 0, none⟩) n n, .map (some bm)] 29)) (w3.heap.size + 1) line path g n bm := by
  show ((w3.heap.push o).push _)[w3.heap.size + 1]? = _
  rw [show w3.heap.size + 1 = (w3.heap.push o).size by simp, Array.getElem?_push_size]

theorem elem22 : Tryf.prog.elem 22 = 9 := by kernel_rfl
theorem t9size : Tryf.t9.size = 1 := by kernel_rfl
theorem ix_some (a : Addr) (len cap k : Nat) (hk : k < len) (w1 : World) : (Instr.indexAt 22 (.slice (some a) len cap) (.int .i64 (k : Int))).run Tryf.prog w1 = .ok (.pointer (some (a.add k))) w1 := by
  rw [run_indexAt_slice w1 22 a len cap .i64 k (by rw [elem22]; exact Tryf.underlying22), if_pos (by omega), elem22]
  simp [sizeOf, go_sem, t9size]

theorem sees_own {w : World} {g n : Nat} {T : Nat → ByteArray} (hc : ∀ k, k < n → w.cell? ⟨g, k, none⟩ = some (.string (T k))) (hg : g < w.heap.size) : Sees w (some ⟨g, 0, none⟩) n n T (fun k => ⟨g, k, none⟩) := by
  refine ⟨fun k hk w1 => ?_, hc, fun _ _ => hg⟩
  rw [ix_some ⟨g, 0, none⟩ n n k hk w1]
  simp [Addr.add]
  intro h
  exact h.symm

theorem stand_index {w W2 w3 : World} {ao : Option Addr} {n nc : Nat} {S : Nat → ByteArray} {AD : Nat → Addr} {T : Nat → ByteArray} {D : DataW Unit} (hB2 : Below w.heap.size w W2) (hW2 : W2.heap.size = w.heap.size + 1) (hC2 : ∀ k, k < n → W2.cell? ⟨w.heap.size, k, none⟩ = some (.string (T k)))
    (hb3 : Below W2.heap.size W2 w3) (hown : w3.ownsMap Tryf.prog 9 (plainElem Tryf.prog 3) W2.heap.size n D) (hall : ∀ j, j < n → Tells D (S j) j) (hA : Sees w ao n nc S AD) (hS : ∀ k, k < n → (S k).size ≤ maxLen) : Stand w w3 ao n nc S AD T w.heap.size W2.heap.size D :=
  ⟨hB2.trans (hb3.mono (by omega)), (hA.below hB2).below hb3, (sees_own hC2 (by omega)).below hb3, hown, hall, hS⟩

theorem sees_nil (w : World) (S : Nat → ByteArray) (AD : Nat → Addr) : Sees w none 0 0 S AD := ⟨fun _ h => absurd h (Nat.not_lt_zero _), fun _ h => absurd h (Nat.not_lt_zero _), fun _ h => absurd h (Nat.not_lt_zero _)⟩

end Go.Proofs.Qxb6628179aFmt
