import Derived.Test.Qxb6628179aFmtStand
namespace Go.Proofs.Qxb6628179aFmt
open Go.RowKit Go.Maps

theorem ix_own (g len cap k : Nat) (hk : k < len) (w1 : World) : (Instr.indexAt 22 (.slice (some ⟨g, 0, none⟩) len cap) (.int .i64 (k : Int))).run Tryf.prog w1 = .ok (.pointer (some ⟨g, k, none⟩)) w1 := by
  rw [ix_some ⟨g, 0, none⟩ len cap k hk w1]
  simp [Addr.add]
  intro h
  exact h.symm

/-- The new slice behind k rounds of the copying loop. -/
def Fill (w3 wr : World) (gc m : Nat) (T : Nat → ByteArray) (k : Nat) : Prop :=
  wr.rowIs gc 9 m (fun j => if j < k then .string (T j) else .string ByteArray.empty) ∧ Below gc w3 wr

theorem fill_start (w3 : World) (m : Nat) (T : Nat → ByteArray) : Fill w3 (w3.alloc (.cells (madeCells #[.string ByteArray.empty] m) 9)) w3.heap.size m T 0 :=
  ⟨(World.rowIs_made w3 (.string ByteArray.empty) m 9).congr (fun i _ => by simp), (Below.refl _ _).alloc (Nat.le_refl _) _⟩

theorem fill_step {w3 wr : World} {gc m : Nat} {T : Nat → ByteArray} {k : Nat} (h : Fill w3 wr gc m T k) : Fill w3 (wr.setCell ⟨gc, k, none⟩ (.string (T k))) gc m T (k + 1) := by
  refine ⟨(h.1.set k (.string (T k))).congr (fun i _ => ?_), h.2.setCell (Nat.le_refl _) _⟩
  by_cases e : i = k
  · subst e; simp
  · by_cases e2 : i < k
    · simp [e, e2, Nat.lt_succ_of_lt e2]
    · have : ¬ i < k + 1 := by omega
      simp [e, e2, this]

theorem Fill.cell {w3 wr : World} {gc m : Nat} {T : Nat → ByteArray} {k : Nat} (h : Fill w3 wr gc m T k) (hk : k < m) : wr.cell? ⟨gc, k, none⟩ = some (.string ByteArray.empty) := by
  rw [h.1.cell hk]; simp

/-- The fields with v laid at place q. -/
def put (T : Nat → ByteArray) (q : Nat) (v : ByteArray) (j : Nat) : ByteArray := if j = q then v else T j
theorem put_same (T : Nat → ByteArray) (q : Nat) (v : ByteArray) : put T q v q = v := by simp [put]
theorem put_other (T : Nat → ByteArray) (q : Nat) (v : ByteArray) (j : Nat) (h : j ≠ q) : put T q v j = T j := by simp [put, h]

/-- The loop is through, v is laid: both slices stand. -/
theorem stand_fill {w w3 wr : World} {ao : Option Addr} {n nc : Nat} {S : Nat → ByteArray} {AD : Nat → Addr} {T : Nat → ByteArray} {g bm : Nat} {D : DataW Unit} (q : Nat) (v : ByteArray) (h : Stand w w3 ao n nc S AD T g bm D) (hf : Fill w3 wr w3.heap.size n T n) :
    Stand w (wr.setCell ⟨w3.heap.size, q, none⟩ (.string v)) ao n nc S AD T g bm D ∧ Stand w (wr.setCell ⟨w3.heap.size, q, none⟩ (.string v)) ao n nc S AD (put T q v) w3.heap.size bm D := by
  have hb : Below w3.heap.size w3 (wr.setCell ⟨w3.heap.size, q, none⟩ (.string v)) := hf.2.setCell (Nat.le_refl _) _
  have h1 := h.next hb
  have hr := hf.1.set q (.string v)
  exact ⟨h1, h1.below, h1.hdr, sees_own (fun k hk => by
    rw [hr.cell hk]
    by_cases e : k = q
    · simp [e, put]
    · simp [e, hk, put]) hr.lt, h1.own, h1.tells, h1.names⟩

/-- Both rows, for the last region: what a load reads in whatever later world. -/
theorem MKtwo {w wr : World} {ao : Option Addr} {n nc : Nat} {S : Nat → ByteArray} {AD : Nat → Addr} {T : Nat → ByteArray} {g gc bm br bc : Nat} {D : DataW Unit} {line : Int} {path : ByteArray} {k : Nat} (h : Stand w wr ao n nc S AD T g bm D) (hr : RowAt wr br line path g n bm) (hc : RowAt wr bc line path gc n bm) (hk : k < n) :
    Hid (∀ w', Below wr.heap.size wr w' → w'.cell? ⟨br, 0, none⟩ = some (.int .i64 line) ∧ w'.cell? ⟨br, 1, none⟩ = some (.string path) ∧ w'.cell? ⟨br, 2, none⟩ = some (.slice (some ⟨g, 0, none⟩) n n) ∧ w'.cell? ⟨br, 3, none⟩ = some (.map (some bm)) ∧
      w'.cell? ⟨bc, 0, none⟩ = some (.int .i64 line) ∧ w'.cell? ⟨bc, 1, none⟩ = some (.string path) ∧ w'.cell? ⟨bc, 2, none⟩ = some (.slice (some ⟨gc, 0, none⟩) n n) ∧ w'.cell? ⟨bc, 3, none⟩ = some (.map (some bm)) ∧ w'.cell? (AD k) = some (.string (S k)) ∧ Hid (Below wr.heap.size wr w')) := by
  intro w' hb
  obtain ⟨c0, c1, c2, c3⟩ := (hr.below hb).cells
  obtain ⟨e0, e1, e2, e3⟩ := (hc.below hb).cells
  exact ⟨c0, c1, c2, c3, e0, e1, e2, e3, (h.next hb).hdr.cell k hk, hb⟩

/-- The whole state: both rows, both slices. -/
structure Both (w wr : World) (ao : Option Addr) (n nc : Nat) (S : Nat → ByteArray) (AD : Nat → Addr) (T U : Nat → ByteArray) (g gc bm br bc : Nat) (D : DataW Unit) (line : Int) (path : ByteArray) : Prop where
  s1 : Stand w wr ao n nc S AD T g bm D
  s2 : Stand w wr ao n nc S AD U gc bm D
  r1 : RowAt wr br line path g n bm
  r2 : RowAt wr bc line path gc n bm

theorem Both.next {w wr w' : World} {ao : Option Addr} {n nc : Nat} {S : Nat → ByteArray} {AD : Nat → Addr} {T U : Nat → ByteArray} {g gc bm br bc : Nat} {D : DataW Unit} {line : Int} {path : ByteArray} (h : Both w wr ao n nc S AD T U g gc bm br bc D line path) (hb : Below wr.heap.size wr w') : Both w w' ao n nc S AD T U g gc bm br bc D line path :=
  ⟨h.s1.next hb, h.s2.next hb, h.r1.below hb, h.r2.below hb⟩

/-- A row value's cells. -/
theorem both_new {w W5 : World} {ao : Option Addr} {n nc : Nat} {S : Nat → ByteArray} {AD : Nat → Addr} {T U : Nat → ByteArray} {g gc bm : Nat} {D : DataW Unit} (line : Int) (path : ByteArray) (h1 : Stand w W5 ao n nc S AD T g bm D) (h2 : Stand w W5 ao n nc S AD U gc bm D) :
    Both w ((((W5.alloc (.cells #[.int .i64 line, .string path, .slice (some ⟨g, 0, none⟩) n n, .map (some bm)] 29)).alloc (.cells #[.int .i64 line, .string path, .slice (some ⟨g, 0, none⟩) n n, .map (some bm)] 29)).alloc (.cells #[.int .i64 line, .string path, .slice (some ⟨gc, 0, none⟩) n n, .map (some bm)] 29)).alloc (.cells #[.int .i64 line, .string path, .slice (some ⟨gc, 0, none⟩) n n, .map (some bm)] 29))
      ao n nc S AD T U g gc bm (W5.heap.size + 1) (W5.heap.size + 1 + 1 + 1) D line path := by
  have r1 := rowAt_new W5 (.cells #[.int .i64 line, .string path, .slice (some ⟨g, 0, none⟩) n n, .map (some bm)] 29) line path g n bm
  have b1 : Below W5.heap.size W5 ((W5.alloc (.cells #[.int .i64 line, .string path, .slice (some ⟨g, 0, none⟩) n n, .map (some bm)] 29)).alloc (.cells #[.int .i64 line, .string path, .slice (some ⟨g, 0, none⟩) n n, .map (some bm)] 29)) := ((Below.refl _ _).alloc (Nat.le_refl _) _).alloc (by simp) _
  have e : ((W5.alloc (.cells #[.int .i64 line, .string path, .slice (some ⟨g, 0, none⟩) n n, .map (some bm)] 29)).alloc (.cells #[.int .i64 line, .string path, .slice (some ⟨g, 0, none⟩) n n, .map (some bm)] 29)).heap.size = W5.heap.size + 1 + 1 := by simp
  generalize (W5.alloc (.cells #[.int .i64 line, .string path, .slice (some ⟨g, 0, none⟩) n n, .map (some bm)] 29)).alloc (.cells #[.int .i64 line, .string path, .slice (some ⟨g, 0, none⟩) n n, .map (some bm)] 29) = V at *
  have b2 : Below V.heap.size V ((V.alloc (.cells #[.int .i64 line, .string path, .slice (some ⟨gc, 0, none⟩) n n, .map (some bm)] 29)).alloc (.cells #[.int .i64 line, .string path, .slice (some ⟨gc, 0, none⟩) n n, .map (some bm)] 29)) := ((Below.refl _ _).alloc (Nat.le_refl _) _).alloc (by simp) _
  have r2 := rowAt_new V (.cells #[.int .i64 line, .string path, .slice (some ⟨gc, 0, none⟩) n n, .map (some bm)] 29) line path gc n bm
  rw [e] at r2
  exact ⟨(h1.next b1).next b2, (h2.next b1).next b2, r1.below b2, r2⟩

end Go.Proofs.Qxb6628179aFmt
