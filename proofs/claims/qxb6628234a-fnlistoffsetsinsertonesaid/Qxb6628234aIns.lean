import Derived.Test.Qxb6628234aOffs
namespace Go.Proofs.Qxb6628234a
open Go.RowKit

theorem info24 : (Try.prog.info? 24).map (fun i => (i.zero, i.size, i.bytes)) = some (some (.slice none 0 0), 1, 24) := by kernel_rfl

theorem Came.below {w w' : World} {ao : Option Addr} {n nc : Nat} {A : Nat → Option Addr} {L C : Nat → Nat} {AD : Nat → Addr} (h : Came w ao n nc A L C AD) (hb : Below w.heap.size w w') : Came w' ao n nc A L C AD := by
  obtain ⟨h0, h1 | ⟨a, rfl, rfl, hc⟩⟩ := h
  · exact ⟨h0, Or.inl h1⟩
  · exact ⟨h0, Or.inr ⟨a, rfl, rfl, fun k hk => (hb.cell (lt_of_cell (hc k hk))).trans (hc k hk)⟩⟩

theorem Came.head2 {w : World} {ao : Option Addr} {n nc : Nat} {A : Nat → Option Addr} {L C : Nat → Nat} {AD : Nat → Addr} (h : Came w ao n nc A L C AD) {k : Nat} (hk : k ≤ n) : Came w ao k nc A L C AD := by
  obtain ⟨h0, ⟨rfl, rfl, rfl⟩ | ⟨a, rfl, rfl, hc⟩⟩ := h
  · exact ⟨hk, Or.inl ⟨rfl, by omega, rfl⟩⟩
  · exact ⟨by omega, Or.inr ⟨a, rfl, rfl, fun j hj => hc j (by omega)⟩⟩

theorem Came.tail2 {w : World} {ao : Option Addr} {n nc : Nat} {A : Nat → Option Addr} {L C : Nat → Nat} {AD : Nat → Addr} (h : Came w ao n nc A L C AD) {k : Nat} (hk : k ≤ n) :
    ∃ (ao2 : Option Addr) (AD2 : Nat → Addr), (∀ w1 : World, (Instr.sliceAt 22 (.slice ao n nc) (some (.int .i64 (k : Int))) none none).run Try.prog w1 = .ok (.slice ao2 (n - k) (nc - k)) w1) ∧ Came w ao2 (n - k) (nc - k) (fun i => A (k + i)) (fun i => L (k + i)) (fun i => C (k + i)) AD2 := by
  have hu : Try.prog.underlying 22 = some (.slice (Try.prog.elem 22)) := by rw [elem22]; exact Try.underlying22
  have hle := h.1
  have hrun : ∀ w1 : World, (Instr.sliceAt 22 (.slice ao n nc) (some (.int .i64 (k : Int))) none none).run Try.prog w1 = .ok (.slice (if nc = k then ao else ao.map (·.add k)) (n - k) (nc - k)) w1 := fun w1 => by
    rw [run_sliceAt_slice w1 22 _ _ _ _ hu, run_slice_l w1 22 ao n nc hu .i64 k (by omega) (by omega), elem22, run_size24]
    simp [Result.andThen, sliced]
  obtain ⟨_, ⟨rfl, rfl, rfl⟩ | ⟨a, rfl, rfl, hc⟩⟩ := h
  · obtain rfl : k = 0 := by omega
    exact ⟨_, fun _ => ⟨0, 0, none⟩, hrun, by omega, Or.inl ⟨by simp, rfl, rfl⟩⟩
  · by_cases e : nc = k
    · rw [if_pos e] at hrun
      exact ⟨_, _, hrun, by omega, Or.inr ⟨a, rfl, rfl, fun j hj => absurd hj (by omega)⟩⟩
    · rw [if_neg e] at hrun
      exact ⟨_, _, hrun, by omega, Or.inr ⟨a.add k, rfl, rfl, fun j hj => by rw [Deep.add_add]; exact hc (k + j) (by omega)⟩⟩

/-- The cells of the first m rows. -/
def rowCells (A : Nat → Option Addr) (L C : Nat → Nat) (m : Nat) : List Value := (List.range m).map fun i => .slice (A i) (L i) (C i)

/-- 'append(ins, xs...)' within the capacity, xs nil, empty or filled. -/
theorem app_came (w : World) (base g k cap : Nat) (xs : List Value) (hown : w.ownsRow base 24 1 (.slice (some ⟨g, 0, none⟩) k cap) k xs) {ao : Option Addr} {m c : Nat} {A : Nat → Option Addr} {L C : Nat → Nat} {AD : Nat → Addr} (h : Came w ao m c A L C AD) (hroom : k + m ≤ cap) :
    ∃ w' : World, (Builtin.append_ #[22, 22] 22 #[.slice (some ⟨g, 0, none⟩) k cap, .slice ao m c]).run Try.prog w = .ok (.slice (some ⟨g, 0, none⟩) (k + m) cap) w' ∧
      w'.ownsRow base 24 1 (.slice (some ⟨g, 0, none⟩) (k + m) cap) (k + m) (xs ++ rowCells A L C m) ∧ w.grownBy w' (some g) := by
  obtain ⟨i0, hi, hz0, hz1, hz2⟩ := info_parts info24
  obtain ⟨_, ⟨rfl, rfl, rfl⟩ | ⟨a, rfl, rfl, hc⟩⟩ := h
  · exact ⟨w, run_append_owned_none w base 22 22 24 i0 1 Try.underlying22 hi _ k xs hown, by simpa [rowCells] using hown, World.grownBy.refl _ _⟩
  · refine run_append_fits w base 22 22 24 i0 1 Try.underlying22 hi hz1 g k cap xs hown a m c (rowCells A L C m) (by simp [rowCells]) ?_ ?_ hroom
    · intro j u hj
      unfold rowCells at hj
      rw [List.getElem?_map] at hj
      obtain ⟨x, hx, rfl⟩ := Option.map_eq_some_iff.1 hj
      obtain ⟨hx1, rfl⟩ := List.getElem?_eq_some_iff.1 hx
      simp at hx1 ⊢
      exact hc j hx1
    · intro u hu
      obtain ⟨_, _, rfl⟩ := List.mem_map.1 hu
      rfl

/-- An append whose run is known, at the operation. -/
theorem wpList_append_run {P : Program} (w : World) {ops : Array Oper} {rest : List Oper} {o : Oper} {a : Act} {Q : Exit → Act → World → Prop}
    (hg : o.guard = none) (s x : Operand) (t : TypeId) (hop : o.op = Op.call { callee := Callee.builtin Builtin.append, args := #[s, x], argTypes := #[t, t] }) (ty : TypeId) (hty : o.type = ty)
    {vs vx v' : Value} {w' : World} (hrun : (Builtin.append_ #[t, t] ty #[vs, vx]).run P w = .ok v' w') (hs : a.eval s = vs) (hx : a.eval x = vx)
    (hK : wpList P ops Q rest (a.put o.dst v') w') : wpList P ops Q (o :: rest) a w := by
  refine wpList_plain hg fun K hK' => ?_
  subst hty
  unfold Oper.wp
  simp [execOp, hop, resolve, invoke, builtin, hs, hx, hrun, Result.andThen]
  exact hK' _ _ hK

/-- x laid in at place k. -/
def ins {α : Type} (f : Nat → α) (k : Nat) (x : α) (j : Nat) : α := if j < k then f j else if j = k then x else f (j - 1)

theorem rowCells_get (A : Nat → Option Addr) (L C : Nat → Nat) (m j : Nat) (h : j < m) : (rowCells A L C m)[j]? = some (.slice (A j) (L j) (C j)) := by simp [rowCells, h]
theorem rowCells_len (A : Nat → Option Addr) (L C : Nat → Nat) (m : Nat) : (rowCells A L C m).length = m := by simp [rowCells]

theorem ins_get (A : Nat → Option Addr) (L C : Nat → Nat) (pa : Option Addr) (lp cp n k j : Nat) (hk : k ≤ n) (hj : j < n + 1) :
    ((rowCells A L C k ++ [.slice pa lp cp]) ++ rowCells (fun i => A (k + i)) (fun i => L (k + i)) (fun i => C (k + i)) (n - k))[j]? = some (.slice (ins A k pa j) (ins L k lp j) (ins C k cp j)) := by
  unfold ins
  by_cases h1 : j < k
  · rw [List.getElem?_append_left (by simp [rowCells_len]; omega), List.getElem?_append_left (by simp [rowCells_len]; omega), rowCells_get _ _ _ _ _ h1]
    simp [h1]
  · by_cases h2 : j = k
    · subst h2
      rw [List.getElem?_append_left (by simp [rowCells_len]), List.getElem?_append_right (by simp [rowCells_len])]
      simp [rowCells_len]
    · rw [List.getElem?_append_right (by simp [rowCells_len]; omega)]
      simp only [List.length_append, rowCells_len, List.length_cons, List.length_nil]
      rw [rowCells_get _ _ _ _ _ (by omega)]
      simp only [if_neg h1, if_neg h2]
      rw [show k + (j - (k + (0 + 1))) = j - 1 by omega]

/-- 'ins := make([][]byte, 0, n+1)' and the three appends. -/
theorem inserted (w : World) (ao : Option Addr) (n nc k : Nat) (A : Nat → Option Addr) (L C : Nat → Nat) (AD : Nat → Addr) (pa : Option Addr) (lp cp : Nat) (hn : n ≤ 1048576) (hk : k ≤ n) (hA : Came w ao n nc A L C AD) :
    ∃ (W1 W2 W4 W5 : World) (ao2 : Option Addr),
      (Instr.makeSlice 22 (.int .i64 0) (.int .i64 ((n : Int) + 1))).run Try.prog w = .ok (.slice (some ⟨w.heap.size, 0, none⟩) 0 (n + 1)) W1 ∧
      (Builtin.append_ #[22, 22] 22 #[.slice (some ⟨w.heap.size, 0, none⟩) 0 (n + 1), .slice ao k nc]).run Try.prog W1 = .ok (.slice (some ⟨w.heap.size, 0, none⟩) k (n + 1)) W2 ∧
      (Builtin.append_ #[22, 22] 22 #[.slice (some ⟨w.heap.size, 0, none⟩) k (n + 1), .slice (some ⟨W2.heap.size, 0, none⟩) 1 1]).run Try.prog (W2.alloc (.cells #[.slice pa lp cp] 24)) = .ok (.slice (some ⟨w.heap.size, 0, none⟩) (k + 1) (n + 1)) W4 ∧
      (∀ w1 : World, (Instr.sliceAt 22 (.slice ao n nc) (some (.int .i64 (k : Int))) none none).run Try.prog w1 = .ok (.slice ao2 (n - k) (nc - k)) w1) ∧
      (Builtin.append_ #[22, 22] 22 #[.slice (some ⟨w.heap.size, 0, none⟩) (k + 1) (n + 1), .slice ao2 (n - k) (nc - k)]).run Try.prog W4 = .ok (.slice (some ⟨w.heap.size, 0, none⟩) (n + 1) (n + 1)) W5 ∧
      Below w.heap.size w W5 ∧ Sees W5 (some ⟨w.heap.size, 0, none⟩) (n + 1) (n + 1) (ins A k pa) (ins L k lp) (ins C k cp) (fun j => ⟨w.heap.size, j, none⟩) := by
  obtain ⟨i0, hi, hz0, hz1, hz2⟩ := info_parts info24
  obtain ⟨W1, m1, o1, g1⟩ := run_make_own (P := Try.prog) w w.heap.size 22 24 i0 (.slice none 0 0) 1 Try.underlying22 hi hz0 hz1 .i64 .i64 (n + 1) (by rw [hz2]; omega) (by unfold maxLen; omega) (Nat.le_refl _)
  rw [Int.natCast_add] at m1
  have b1 : Below w.heap.size w W1 := (Below.refl _ _).grown g1 (Nat.le_refl _) (fun j hj => by cases hj)
  obtain ⟨W2, m2, o2, g2⟩ := app_came W1 w.heap.size w.heap.size 0 (n + 1) [] o1 ((hA.below b1).head2 hk) (by omega)
  have b2 : Below w.heap.size w W2 := b1.grown g2 b1.size (fun j hj => by cases hj; exact Nat.le_refl _)
  simp only [Nat.zero_add, List.nil_append] at m2 o2
  have o2' := o2.alloc (.cells #[.slice pa lp cp] 24)
  have b3 : Below w.heap.size w (W2.alloc (.cells #[.slice pa lp cp] 24)) := b2.alloc b2.size _
  obtain ⟨W4, m4, o4, g4⟩ := run_append_fits (P := Try.prog) (W2.alloc (.cells #[.slice pa lp cp] 24)) w.heap.size 22 22 24 i0 1 Try.underlying22 hi hz1 w.heap.size k (n + 1) _ o2' ⟨W2.heap.size, 0, none⟩ 1 1 [.slice pa lp cp] rfl (cell_one_new _ _ _) (fun u hu => by simp at hu; subst hu; rfl) (by omega)
  have b4 : Below w.heap.size w W4 := b3.grown g4 b3.size (fun j hj => by cases hj; exact Nat.le_refl _)
  obtain ⟨ao2, AD2, hrun, hC2⟩ := hA.tail2 hk
  obtain ⟨W5, m5, o5, g5⟩ := app_came W4 w.heap.size w.heap.size (k + 1) (n + 1) _ o4 (hC2.below b4) (by omega)
  have b5 : Below w.heap.size w W5 := b4.grown g5 b4.size (fun j hj => by cases hj; exact Nat.le_refl _)
  rw [show k + 1 + (n - k) = n + 1 by omega] at m5 o5
  refine ⟨W1, W2, W4, W5, ao2, m1, m2, m4, hrun, m5, b5, fun j hj w1 => ?_, fun j hj => ?_, fun j hj => (o5.lt _ rfl).2⟩
  · rw [ix_some ⟨w.heap.size, 0, none⟩ (n + 1) (n + 1) j hj w1]
    simp [Addr.add]
    intro h
    exact h.symm
  · rw [o5.cellAt j (by omega)]
    exact ins_get A L C pa lp cp n k j hk hj

/-! ### the law itself, on numbers -/

theorem ps_ins_le (L : Nat → Nat) (k x j : Nat) (h : j ≤ k) : ps (ins L k x) j = ps L j := ps_congr (fun i hi => by simp [ins, show i < k by omega])
theorem ps_ins_gt (L : Nat → Nat) (k x j : Nat) (h : k ≤ j) : ps (ins L k x) (j + 1) = ps L j + x := by
  induction j with
  | zero => obtain rfl : k = 0 := by omega
            simp [ps, ins]
  | succ j ih =>
    by_cases e : k = j + 1
    · subst e
      show ps (ins L (j + 1) x) (j + 1) + ins L (j + 1) x (j + 1) = _
      rw [ps_ins_le _ _ _ _ (Nat.le_refl _)]
      simp [ins]
    · show ps (ins L k x) (j + 1) + ins L k x (j + 1) = ps L j + L j + x
      rw [ih (by omega)]
      simp [ins, show ¬ j + 1 < k by omega, show ¬ j + 1 = k by omega]
      omega
theorem off_ins_le (L : Nat → Nat) (k x j : Nat) (h : j ≤ k) : off (ins L k x) j = off L j := by simp only [off, ps_ins_le L k x j h]
theorem off_ins_gt (L : Nat → Nat) (k x j : Nat) (h : k ≤ j) : off (ins L k x) (j + 1) = off L j + 4 + x := by simp only [off, ps_ins_gt L k x j h]; omega

set_option maxHeartbeats 1000000 in
theorem bytes8 (q : Int) (ao pa : Option Addr) (n nc lp cp : Nat) (A : Nat → Option Addr) (L C : Nat → Nat) (AD : Nat → Addr) (w : World) (hn : n ≤ 140737488351232) (hA : Sees w ao n nc A L C AD) :
    Calls Try.prog 8 #[.slice ao n nc, .int .i64 q, .slice pa lp cp] w fun e w' => BytesPost L n lp e ∧ w' = w := by
  have HA : Hid (Sees w ao n nc A L C AD) := hA
  clear hA
  go_enter Try.func8, Try.ntmps8
  go_wp2
  all_goals try (go_ret; exact ⟨Or.inl rfl, rfl⟩)
  go_loop [7, 8] (fun v i => ∃ k : Nat, k ≤ n ∧ i = .int .i64 k ∧ v = .int .i64 ((n + ps L k : Nat) : Int) ∧ n + ps L k ≤ 1048576) (fun _ i => n - (intOf i).toNat)
  case atStart => exact ⟨0, Nat.zero_le _, rfl, by simp [ps], by simp only [ps]; omega⟩
  case round =>
    obtain ⟨k, hk, rfl, rfl, hz⟩ := hrel
    by_cases hlt : k < n
    · have h1 := HA.out.ix k hlt
      have h2 := HA.out.cell k hlt
      go_wp2
      all_goals try (go_ret; exact ⟨Or.inl rfl, rfl⟩)
      go_round
      case rel => exact ⟨k + 1, by omega, by go_num, by simp only [ps]; go_num, by simp only [ps]; omega⟩
      case measure => simp [intOf]; omega
    · obtain rfl : k = n := by omega
      go_wp2
      all_goals go_ret
      · exact ⟨Or.inl rfl, rfl⟩
      · exact ⟨Or.inl rfl, rfl⟩
      · exact ⟨Or.inr ⟨rfl, by omega⟩, rfl⟩

end Go.Proofs.Qxb6628234a
