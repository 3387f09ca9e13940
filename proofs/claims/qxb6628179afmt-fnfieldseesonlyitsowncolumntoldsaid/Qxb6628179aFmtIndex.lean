import Derived.Test.Qxb6628179aFmtRow
namespace Go.Proofs.Qxb6628179aFmt
open Go.RowKit Go.Maps

theorem run_makeMapHint (w : World) (k : Int) : (Instr.makeMap 25 (some (.int .i64 k))).run Tryf.prog w = .ok (.map (some w.heap.size)) (w.alloc (.map #[] 0)) := by
  simp [Instr.makeMap, run_underlying Tryf.underlying25, asInt, go_sem]

/-- What zzIndex leaves. -/
def IndexPost (w : World) (S : Nat → ByteArray) (n : Nat) (e : Ending) (w' : World) : Prop :=
  Below w.heap.size w w' ∧ (e = .returned (.tuple #[.map none, .bool false]) ∨
    (e = .returned (.tuple #[.map (some w.heap.size), .bool true]) ∧ ∃ D : DataW Unit, w'.ownsMap Tryf.prog 9 (plainElem Tryf.prog 3) w.heap.size n D ∧ ∀ j, j < n → Tells D (S j) j))

/-- A round's store: every name that was told is told, and the new one. -/
theorem tells_put {D : DataW Unit} {S : Nat → ByteArray} {k : Nat} (hD : IsMap D) (hall : ∀ j, j < k → Tells D (S j) j) (hno : Maps.has D (.string (S k).data.toList) = false) :
    ∀ j, j < k + 1 → Tells (D.put (.string (S k).data.toList) (.lit (.int .i64 (k : Int)))) (S j) j := by
  intro j hj
  by_cases e : j = k
  · subst e
    have hk : WideAt.IsKeyLit (.string (S j).data.toList) := trivial
    exact ⟨has_put_same hD hk _, atKey_put_same hD hk _ _⟩
  · obtain ⟨h1, h2⟩ := hall j (by omega)
    have hne : Lit.string (S j).data.toList ≠ Lit.string (S k).data.toList := by
      intro he
      rw [he, hno] at h1
      cases h1
    exact ⟨by rw [has_put_other hne]; exact h1, by rw [atKey_put_other hne]; exact h2⟩

set_option maxHeartbeats 400000 in
theorem index_any (ao : Option Addr) (n nc : Nat) (S : Nat → ByteArray) (AD : Nat → Addr) (w : World) (hn : n ≤ 140737488351232) (hS : ∀ k, k < n → (S k).size ≤ maxLen) (hA : Sees w ao n nc S AD) :
    Calls Tryf.prog 7 #[.slice ao n nc] w fun e w' => IndexPost w S n e w' := by
  have HA : Hid (Sees w ao n nc S AD) := hA
  have HS : Hid (∀ k, k < n → (S k).size ≤ maxLen) := hS
  clear hA hS
  have hmm := run_makeMapHint
  go_enter Tryf.func7, Tryf.ntmps7
  go_wp2
  clear hmm
  go_loopw [5] (fun i wr => ∃ k : Nat, k ≤ n ∧ i = .int .i64 k ∧ Below w.heap.size w wr ∧ Hid (∃ D : DataW Unit, wr.ownsMap Tryf.prog 9 (plainElem Tryf.prog 3) w.heap.size k D ∧ ∀ j, j < k → Tells D (S j) j)) (fun i _ => n - (intOf i).toNat)
  case atStart => exact ⟨0, Nat.zero_le _, rfl, (Below.refl _ _).alloc (Nat.le_refl _) _, ⟨_, World.ownsMap_made _ _ _ _, fun j hj => absurd hj (Nat.not_lt_zero _)⟩⟩
  case round =>
    obtain ⟨k, hk, rfl, hnx, D, hown, hall⟩ := hrel
    by_cases hlt : k < n
    · have h1 := HA.out.ix k hlt
      have h2 : wr.cell? (AD k) = some (.string (S k)) := (hnx.cell (HA.out.old k hlt)).trans (HA.out.cell k hlt)
      have hkey := hasKey (HS.out k hlt)
      have HL : Hid (∀ j, j < k → Tells D (S j) j) := hall
      clear hall
      cases hh : Maps.has D (.string (S k).data.toList) with
      | true =>
        go_wp2_with (first | (at_lookup; refine wpList_lookup_own_ok_int _ rfl _ _ 25 rfl 9 3 .i64 law Tryf.underlying25 Tryf.underlying3 (zero3 _) w.heap.size k _ rfl hown _ _ rfl hkey ?_; intro c1 hat1 hwc1; clear hat1) | go_in)
        go_ret2
        exact ⟨hnx, Or.inl rfl⟩
      | false =>
        go_wp2_with (first | (at_lookup; refine wpList_lookup_own_ok_int _ rfl _ _ 25 rfl 9 3 .i64 law Tryf.underlying25 Tryf.underlying3 (zero3 _) w.heap.size k _ rfl hown _ _ rfl hkey ?_; intro c1 hat1 hwc1; clear hat1) | (at_mapUpdate; refine wpList_mapUpdate_own _ rfl _ _ _ 25 rfl 9 3 law Tryf.underlying25 _ w.heap.size k _ rfl hown (by unfold maxLen; omega) _ _ _ rfl rfl hkey _ [] (plainElem_int Tryf.underlying3 (WalkArith.wf_i64 (by omega))) ?_; intro w1 hown1 hgrow1) | go_in)
        go_roundw
        case rel => exact ⟨k + 1, by omega, by go_num, hnx.grown hgrow1 hnx.size (fun j hj => by cases hj; exact Nat.le_refl _), ⟨_, hown1, tells_put hown.isMap HL.out hh⟩⟩
        case measure => simp [intOf]; omega
    · go_wp2
      go_ret2
      have hkn : k = n := by omega
      exact ⟨hnx, Or.inr ⟨rfl, D, hkn ▸ hown, hkn ▸ hall⟩⟩

end Go.Proofs.Qxb6628179aFmt
