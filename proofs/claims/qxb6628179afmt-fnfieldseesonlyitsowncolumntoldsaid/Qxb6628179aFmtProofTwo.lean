import Derived.Test.Qxb6628179aFmtLawTwo
import Derived.Test.Qxb6628179aFmtOpen
import Derived.Test.Qxb6628179aFmtCards
import Derived.ShutString
import Derived.OpenShut
namespace Go.Proofs.Qxb6628179aFmt
open Go.ChangeShapes Go.WideShapes Go.ChangeAt Go.RowKit
open Go.ChangeMaps (open_string shut_string)
open Go.Extern.Stop Go.Stop Go.Extern

/-- Law two's walk, whatever the two slices and the place. -/
theorem law2_any (line : Int) (path v : ByteArray) (ao bo : Option Addr) (n nc m mc : Nat) (q : Int) (W : World) (hp : path.size ≤ maxLen) (hn : n * 16 ≤ 140737488351232) (hm : m * 16 ≤ 140737488351232)
    (hA : ∃ (S : Nat → ByteArray) (AD : Nat → Addr), Sees W ao n nc S AD ∧ ∀ k, k < n → (S k).size ≤ maxLen)
    (hB : (bo = none ∧ m = 0 ∧ mc = 0) ∨ ∃ (b : Addr) (T : Nat → ByteArray), bo = some b ∧ Sees W (some b) m mc T (fun k => b.add k)) :
    Calls Tryf.prog 4 #[.int .i64 line, .string path, .slice ao n nc, .slice bo m mc, .int .i64 q, .string v] W fun e W' => e = .returned (.bool true) ∧ Below W.heap.size W W' := by
  obtain ⟨S, AD, hS, hz⟩ := hA
  rcases hB with ⟨rfl, rfl, rfl⟩ | ⟨b, T, rfl, hT⟩
  · exact law2_out line path v ao none n nc 0 0 q S S AD AD W hn hm hp (by omega) hS (sees_nil _ _ _)
  · by_cases ho : m ≠ n ∨ q < 0 ∨ (n : Int) ≤ q
    · exact law2_out line path v ao (some b) n nc m mc q S T AD _ W hn hm hp ho hS hT
    · obtain ⟨j, rfl⟩ := Int.eq_ofNat_of_zero_le (show 0 ≤ q by omega)
      obtain rfl : m = n := by omega
      exact law2_in line path v ao b m nc mc j S T AD W hn hp hz (by omega) hS hT

set_option maxRecDepth 100000 in
theorem lifted2 (os : Os) (started : os.Started) (H : Type) (enc : TypeId × Value → H) :
    ReturnsInTold none {} Tryf.checked os 4 .any Input.okWide ((OpenSpec.ofChange Rows.fnFieldSeesOnlyItsOwnColumnSpec).preRow enc Tryf.prog Tryf.f4 [] false []) (fun F => ((OpenSpec.ofChange Rows.fnFieldSeesOnlyItsOwnColumnSpec).at F).post enc Tryf.prog Tryf.f4 false true false false) (aloneAtReturn Tryf.prog) nothingAlways := by
  refine returnsInTold_of_row (C := Tryf.checked) (s := OpenSpec.ofChange Rows.fnFieldSeesOnlyItsOwnColumnSpec) (by kernel_rfl) own started (by kernel_rfl) Tryf.func4
    (OpenSpec.witness_stopped (enc := enc) (C := Tryf.checked) false ⟨#[], #[.int .i64 0, .string ByteArray.empty, .slice none 0 0, .slice none 0 0, .int .i64 0, .string ByteArray.empty], []⟩ 8 (by kernel_rfl) (by kernel_rfl) (by kernel_rfl) (by kernel_rfl)) ?_
  intro F W base args ds gs before _ _ hval0 hW _ _ hsz0 _ _
  have hval : ∀ (j : Nat) t v, Tryf.f4.params[j]? = some t → args[j]? = some v → Value.okWide Tryf.prog W .any base t v := hval0
  have hW' := hW
  obtain ⟨p, q, hA0, hV, rfl, hfz, hnd⟩ := hW
  have hA : DataW.TrodAll enc Tryf.prog W 0 (fun _ => true) true Tryf.f4.params.toList args.toList ds p := hA0
  have hsz : (DataW.weightsEach Tryf.prog (Tryf.f4.params.toList ++ (OpenSpec.ofChange Rows.fnFieldSeesOnlyItsOwnColumnSpec).bare.plain.varTypes Tryf.prog) (ds ++ gs)).all (· ≤ reachBytes) = true := hsz0
  rw [Tryf.params4] at hA hval hsz
  obtain ⟨v0, vs0, d0, ds0, p0, q0, hargs, rfl, rfl, h0, r0⟩ := trodAll_cons hA
  obtain ⟨v1, vs1, d1, ds1, p1, q1, rfl, rfl, rfl, h1, r1⟩ := trodAll_cons r0
  obtain ⟨v2, vs2, d2, ds2, p2, q2, rfl, rfl, rfl, h2, r2⟩ := trodAll_cons r1
  obtain ⟨v3, vs3, d3, ds3, p3, q3, rfl, rfl, rfl, h3, r3⟩ := trodAll_cons r2
  obtain ⟨v4, vs4, d4, ds4, p4, q4, rfl, rfl, rfl, h4, r4⟩ := trodAll_cons r3
  obtain ⟨v5, vs5, d5, ds5, p5, q5, rfl, rfl, rfl, h5, r5⟩ := trodAll_cons r4
  obtain ⟨rfl, rfl, rfl⟩ := trodAll_nil r5
  obtain rfl : args = #[v0, v1, v2, v3, v4, v5] := by cases args; simp_all
  obtain ⟨rfl, rfl⟩ := trodVars_none hV
  obtain ⟨line, rfl, rfl, rfl, wl⟩ := open_int Tryf.underlying3 (hval 0 3 v0 rfl rfl) h0
  obtain ⟨path, rfl, rfl, rfl, hp⟩ := open_string Tryf.underlying9 (hval 1 9 v1 rfl rfl) h1
  obtain ⟨ao, n, nc, rfl⟩ := okWide_slice Tryf.underlying22 (hval 2 22 v2 rfl rfl)
  obtain ⟨bo, m, mc, rfl⟩ := okWide_slice Tryf.underlying22 (hval 3 22 v3 rfl rfl)
  obtain ⟨kk, rfl, rfl, rfl, wk⟩ := open_int Tryf.underlying3 (hval 4 3 v4 rfl rfl) h4
  obtain ⟨vv, rfl, rfl, rfl, hv⟩ := open_string Tryf.underlying9 (hval 5 9 v5 rfl rfl) h5
  clear hA0 hval0
  have h2k := h2
  have h3k := h3
  obtain ⟨fa, hfa⟩ := h2
  obtain ⟨fb, hfb⟩ := h3
  simp only [Value.cells] at hfa hfb
  have hn : n * 16 ≤ 140737488351232 := by
    rcases open_sees hfa with ⟨_, rfl, _, _⟩ | ⟨a, S, es, rest, _, _, _, rfl, hes⟩
    · omega
    · have hh := sized_slice hsz (j := 2) (t := 22) (e := 9) rfl rfl Tryf.underlying22
      rw [bytes9] at hh
      simp only [reachBytes] at hh
      omega
  have hm : m * 16 ≤ 140737488351232 := by
    rcases open_sees hfb with ⟨_, rfl, _, _⟩ | ⟨a, S, es, rest, _, _, _, rfl, hes⟩
    · omega
    · have hh := sized_slice hsz (j := 3) (t := 22) (e := 9) rfl rfl Tryf.underlying22
      rw [bytes9] at hh
      simp only [reachBytes] at hh
      omega
  have hA1 : ∃ (S : Nat → ByteArray) (AD : Nat → Addr), Sees W ao n nc S AD ∧ ∀ k, k < n → (S k).size ≤ maxLen := by
    rcases open_sees hfa with ⟨rfl, rfl, rfl, _⟩ | ⟨a, S, es, rest, rfl, hS, hz, _, _⟩
    · exact ⟨fun _ => ByteArray.empty, fun _ => ⟨0, 0, none⟩, sees_nil _ _ _, fun _ h => absurd h (Nat.not_lt_zero _)⟩
    · exact ⟨S, _, hS, hz⟩
  have hB1 : (bo = none ∧ m = 0 ∧ mc = 0) ∨ ∃ (b : Addr) (T : Nat → ByteArray), bo = some b ∧ Sees W (some b) m mc T (fun k => b.add k) := by
    rcases open_sees hfb with ⟨rfl, rfl, rfl, _⟩ | ⟨a, S, es, rest, rfl, hS, hz, _, _⟩
    · exact Or.inl ⟨rfl, rfl, rfl⟩
    · exact Or.inr ⟨a, S, rfl, hS⟩
  have hlt : ∀ x ∈ p2 ++ p3, x.block < W.heap.size := fun x hx => by
    have := hW'.lt x (by simpa using hx)
    simpa using this
  refine (law2_any line path vv ao bo n nc m mc kk W hp hn hm hA1 hB1).mono fun e W' ⟨he, hb⟩ => ?_
  subst he
  refine ⟨_, rfl, _, _, _, [], [] ++ ([] ++ (p2 ++ (p3 ++ ([] ++ ([] ++ []))))), [], hW', ?_, ?_, rfl, hb.frame _, fun h => by cases h⟩
  · exact trodAll_mk1 (shut_bool Tryf.underlying4 _)
  · exact trodAll_cons_mk (shut_int Tryf.underlying3 wl) (trodAll_cons_mk (shut_string Tryf.underlying9 hp) (trodAll_cons_mk (Below.trod laidOut (by kernel_rfl) (of_decide_eq_true (by kernel_rfl)) h2k hb (fun x hx => hlt x (List.mem_append_left _ hx))) (trodAll_cons_mk (Below.trod laidOut (by kernel_rfl) (of_decide_eq_true (by kernel_rfl)) h3k hb (fun x hx => hlt x (List.mem_append_right _ hx)))
      (trodAll_cons_mk (shut_int Tryf.underlying3 wk) (trodAll_cons_mk (shut_string Tryf.underlying9 hv) trodAll_mk0)))))

/-- THE STATEMENT: law two, fmt's text told (the road never comes to fmt). -/
theorem proved2 : Rows.FnFieldSeesOnlyItsOwnColumnToldSaid :=
  Claim7.holds_of_told_any 4 Tryf.f4 "fmt.Sprintf" [] [] _ _ _ (by kernel_rfl) rfl rfl rfl laidOut (by kernel_rfl) rfl ⟨rfl, rfl, rfl, rfl, rfl, rfl, rfl⟩ rfl rfl (by kernel_rfl) (by kernel_rfl) Tryf.func4 (by kernel_rfl)
    (of_decide_eq_true (by kernel_rfl)) (by unfold Func.isWrapper; rw [if_neg (of_decide_eq_false (by kernel_rfl))]; exact ⟨rfl, rfl⟩) stops.symm rfl stopKnobs.symm (by kernel_rfl)
    (by kernel_rfl) (by kernel_rfl) (by kernel_rfl) (by kernel_rfl) (by kernel_rfl) (by kernel_rfl) (by kernel_rfl) (by kernel_rfl) (by kernel_rfl) rfl (by kernel_rfl) rfl rfl
    rfl rfl
    rfl (by kernel_rfl) (by kernel_rfl) (by kernel_rfl) (by decide) (by kernel_rfl)
    (OpenClaim.moreEntering_of (by kernel_rfl) (by kernel_rfl) (by kernel_rfl) (by kernel_rfl) (by kernel_rfl) (by kernel_rfl) (by kernel_rfl) (by kernel_rfl) (by kernel_rfl) (by kernel_rfl))
    ⟨_, WideRow.started_initial, quiet _⟩
    (fun os started _ H enc _ => lifted2 os started H enc)

end Go.Proofs.Qxb6628179aFmt
