import Derived.Test.Qxb6628234aInsert
import Derived.Test.Qxb6628234aOpen
namespace Go.Proofs.Qxb6628234a
open Go.ChangeShapes Go.WideShapes Go.ChangeAt Go.RowKit

theorem insert_any (ao pa : Option Addr) (n nc lp cp : Nat) (q : Int) (W : World) (hn : n ≤ 140737488351232) (hA : ∃ (A : Nat → Option Addr) (L C : Nat → Nat) (AD : Nat → Addr), Came W ao n nc A L C AD) :
    Calls Try.prog 4 #[.slice ao n nc, .int .i64 q, .slice pa lp cp] W fun e W' => e = .returned (.bool true) ∧ Below W.heap.size W W' := by
  obtain ⟨A, L, C, AD, hC⟩ := hA
  by_cases ho : q < 0 ∨ (0 ≤ q ∧ (n : Int) < q)
  · exact insert_out ao pa n nc lp cp q A L C AD W hn ho hC
  · obtain ⟨k, rfl⟩ := Int.eq_ofNat_of_zero_le (show 0 ≤ q by omega)
    exact insert_in ao pa n nc k lp cp A L C AD W hn (by omega) hC

set_option maxRecDepth 100000 in
theorem liftedInsert (os : Os) (started : os.Started) (H : Type) (enc : TypeId × Value → H) :
    ReturnsInHanded {} Try.checked os 4 .any (Rows.fnListOffsetsInsertOneSpec.pre6 enc Try.prog Try.f4 Rows.fnListOffsetsInsertOneRow.domain false) (Rows.fnListOffsetsInsertOneSpec.post enc Try.prog Try.f4 false true false false) := by
  refine returnsInHanded_of_change_sized (C := Try.checked) own started (by kernel_rfl) Try.func4
    (ChangeSpec.witness6 (enc := enc) (C := Try.checked) false ⟨#[], #[.slice none 0 0, .int .i64 0, .slice none 0 0], []⟩ 8 (by kernel_rfl) (by kernel_rfl) (by kernel_rfl) (by kernel_rfl)) ?_
  intro W base args ds gs before hval0 hW _ hsz0 _
  have hsz : (DataW.weightsEach Try.prog (Try.f4.params.toList ++ Rows.fnListOffsetsInsertOneSpec.plain.varTypes Try.prog) (ds ++ gs)).all (· ≤ reachBytes) = true := hsz0
  clear hsz0
  have hval : ∀ (j : Nat) t v, Try.f4.params[j]? = some t → args[j]? = some v → Value.okWide Try.prog W .any base t v := hval0
  have hW' := hW
  obtain ⟨p, q, hA0, hV, rfl, _, _⟩ := hW
  have hA : DataW.TrodAll enc Try.prog W 0 (fun _ => true) true Try.f4.params.toList args.toList ds p := hA0
  rw [Try.params4] at hA hval hsz
  obtain ⟨v0, v1, v2, d0, d1, d2, p0, p1, p2, rfl, rfl, rfl, h0, h1, h2⟩ := trodAll_three hA
  obtain ⟨rfl, rfl⟩ := trodVars_none hV
  obtain ⟨m, rfl, rfl, rfl, wm⟩ := open_int Try.underlying3 (hval 1 3 v1 rfl rfl) h1
  obtain ⟨ao, n, nc, rfl⟩ := okWide_slice Try.underlying22 (hval 0 22 v0 rfl rfl)
  obtain ⟨pa, lp, cp, rfl⟩ := okWide_slice Try.underlying24 (hval 2 24 v2 rfl rfl)
  have h0k := h0
  obtain ⟨fuel, hf⟩ := h0
  clear hA0 hval0
  simp only [Value.cells] at hf
  have hlt : ∀ x ∈ p0 ++ p2, x.block < W.heap.size := fun x hx => by
    have := hW'.lt x (by simpa using hx)
    simpa using this
  obtain ⟨hcame, hlen⟩ := open_came hf
  have hn : n ≤ 140737488351232 := by
    rcases hlen with rfl | ⟨es, rest, rfl, hes⟩
    · omega
    · have hh := sized_slice hsz (j := 0) (t := 22) (e := 24) rfl rfl Try.underlying22
      rw [bytes24] at hh
      simp only [reachBytes] at hh
      omega
  refine (insert_any ao pa n nc lp cp m W hn hcame).mono fun e W' ⟨he, hb⟩ => ?_
  subst he
  refine ⟨_, rfl, _, _, _, [], p0 ++ ([] ++ p2), [], hW', ?_, ?_, rfl, hb.frame _, fun h => by cases h⟩
  · exact trodAll_mk1 (shut_bool Try.underlying4 _)
  · exact trodAll_mk3 (Below.trod laidOut (by kernel_rfl) (of_decide_eq_true (by kernel_rfl)) h0k hb (fun x hx => hlt x (List.mem_append_left _ hx))) (shut_int Try.underlying3 wm) (Below.trod laidOut (by kernel_rfl) (of_decide_eq_true (by kernel_rfl)) h2 hb (fun x hx => hlt x (List.mem_append_right _ hx)))

theorem over4 : Rows.fnListOffsetsInsertOneRow.holds Try.pinned (OpenSpec.ofChange Rows.fnListOffsetsInsertOneSpec) :=
  OpenClaim.holds_of_wide 4 Try.f4 rfl rfl rfl rfl rfl rfl rfl ⟨rfl, rfl, rfl, rfl, rfl⟩ rfl rfl rfl rfl rfl (by kernel_rfl) Try.func4 (by kernel_rfl)
    (of_decide_eq_true (by kernel_rfl)) (by unfold Func.isWrapper; first | (rw [if_pos (by decide +kernel)]; kernel_rfl) | (rw [if_neg (by decide +kernel)]; exact ⟨rfl, rfl⟩))
    (fun os started H enc _ => liftedInsert os started H enc)

/-- THE STATEMENT. -/
theorem provedInsert : Rows.FnListOffsetsInsertOneSaid := over4

end Go.Proofs.Qxb6628234a
