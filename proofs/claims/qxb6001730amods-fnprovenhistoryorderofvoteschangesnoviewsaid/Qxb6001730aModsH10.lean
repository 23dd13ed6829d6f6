import Derived.Test.Qxb6001730aModsH9
namespace Go.Proofs.Qxb6001730aMods
open Go.RowKit

theorem top_perm {st : Nat → Int} {nv : Nat} {P : Nat → Nat} {lo M : Int} (hP : ∀ p, p < nv → P p < nv) (hPP : ∀ p, p < nv → P (P p) = p) (h : Pl.Top (fun p => st (P p)) nv lo M) : Pl.Top st nv lo M := by
  obtain ⟨h1, h2, h3⟩ := h
  refine ⟨h1, fun i hi => ?_, ?_⟩
  · have := h2 (P i) (hP i hi)
    simp only [hPP i hi] at this
    exact this
  · rcases h3 with h3 | ⟨i, hi, e⟩
    · exact Or.inl h3
    · exact Or.inr ⟨P i, hP i hi, e⟩

theorem top_of_covers {ps pv sq vw : Nat → Int} {np : Nat} {af tp : Int} {m : List (Int × Nat)} {L : List Nat} (h : ProvedIs ps pv af tp m L) (c : Pl.Covers sq vw np ps pv L) : Pl.Top sq np af tp := by
  obtain ⟨_, h1, h2, h3⟩ := h
  refine ⟨h1, fun i hi => ?_, ?_⟩
  · obtain ⟨q, hq, e, _⟩ := c.to i hi
    rw [← e]; exact h2 q hq
  · rcases h3 with h3 | ⟨q, hq, e⟩
    · exact Or.inl h3
    · obtain ⟨i, hi, e1, _⟩ := c.from_ q hq
      exact Or.inr ⟨i, hi, by rw [← e1, e]⟩

/-- What both histories come to. -/
theorem both {st sq vw : Nat → Int} {nv np : Nat} {cs1 cs2 : Nat → Nat} {P1 P2 : Nat → Nat} (hP1 : ∀ p, p < nv → P1 p < nv) (hPP1 : ∀ p, p < nv → P1 (P1 p) = p) (hP2 : ∀ p, p < nv → P2 p < nv) (hPP2 : ∀ p, p < nv → P2 (P2 p) = p)
    {af1 tp1 af2 tp2 : Int} {a1 a2 : Option Addr} {n1 c1 n2 c2 : Nat} {m1 m2 : List (Int × Nat)} {ps1 pv1 ps2 pv2 : Nat → Int} {L1 L2 : List Nat}
    (A1 : AfterIs (fun p => st (P1 p)) cs1 nv af1 (.slice a1 n1 c1)) (A2 : AfterIs (fun p => st (P2 p)) cs2 nv af2 (.slice a2 n2 c2))
    (Q1 : ProvedIs ps1 pv1 af1 tp1 m1 L1) (Q2 : ProvedIs ps2 pv2 af2 tp2 m2 L2) (C1 : Pl.Covers sq vw np ps1 pv1 L1) (C2 : Pl.Covers sq vw np ps2 pv2 L2) :
    af2 = af1 ∧ tp2 = tp1 ∧ n2 = n1 ∧ m1.length = Pl.dcnt sq np ∧ m2.length = Pl.dcnt sq np ∧ (n2 = 0 ∨ (n2 = 1 ∧ ∃ p, p < nv ∧ st (P2 p) = af2 ∧ a2 = some ⟨cs2 p, 0, none⟩)) := by
  have e1 : af2 = af1 := (top_perm hP2 hPP2 A2.1).unique (top_perm hP1 hPP1 A1.1)
  subst e1
  have e2 : tp2 = tp1 := (top_of_covers Q2 C2).unique (top_of_covers Q1 C1)
  refine ⟨rfl, e2, ?_, Pl.seen_length Q1.1 C1, Pl.seen_length Q2.1 C2, ?_⟩
  · rcases A1.2 with ⟨z1, s1⟩ | ⟨z1, p1, _, _, s1⟩ <;> rcases A2.2 with ⟨z2, s2⟩ | ⟨z2, p2, _, _, s2⟩
    · injection s1 with _ s1; injection s2 with _ s2; rw [s1, s2]
    · omega
    · omega
    · injection s1 with _ s1; injection s2 with _ s2; rw [s1, s2]
  · rcases A2.2 with ⟨_, s2⟩ | ⟨_, p2, hp2, hs, s2⟩
    · injection s2 with _ s2; exact Or.inl s2
    · injection s2 with s2 s3; exact Or.inr ⟨s3, p2, hp2, hs, s2⟩

/-- The clone of a slice, nil or not. -/
theorem clone64_opt (a : Option Addr) (n c : Nat) (z : Nat → Int) (w : World) (hn : n ≤ 1048576) (ha : 0 < n → ∃ b off, a = some ⟨b, off, none⟩ ∧ ∀ i, i < n → w.cell? ⟨b, off + i, none⟩ = some (.int .u64 (z i))) :
    Calls Trym.prog 23 #[.slice a n c] w fun e w' => ∃ a', e = .returned (.slice a' n n) ∧ (0 < n → a' = some ⟨w.heap.size, 0, none⟩) ∧ (∀ i, i < n → w'.cell? ⟨w.heap.size, i, none⟩ = some (.int .u64 (z i))) ∧ Below w.heap.size w w' := by
  by_cases h0 : 0 < n
  · obtain ⟨b, off, rfl, hc⟩ := ha h0
    refine (clone64_any b off n c z w hn hc).mono ?_
    rintro e w' ⟨rfl, hr, hb⟩
    exact ⟨_, rfl, fun _ => rfl, fun i hi => hr.cell hi, hb⟩
  · obtain rfl : n = 0 := by omega
    clear ha h0 hn
    have hnil : ∀ (w : World) (a : Option Addr) (n c n' c' : Nat), (binOp .eql 41 (.slice a n c) (.slice none n' c')).run Trym.prog w = .ok (.bool a.isNone) w := fun w a n c n' c' => Lib.run_eql_slice_nil w _ _ a n c n' c' Trym.underlying41
    cases a with
    | none =>
      have fin : Calls Trym.prog 23 #[.slice none 0 c] w fun e w' => e = .returned (.slice none 0 0) ∧ w' = w := by
        go_enter Trym.func23, Trym.ntmps23
        go_wp2
        go_ret
        exact ⟨rfl, rfl⟩
      refine fin.mono ?_
      rintro e w' ⟨rfl, rfl⟩
      exact ⟨none, rfl, fun h => absurd h (Nat.lt_irrefl _), fun i hi => absurd hi (Nat.not_lt_zero _), Below.refl _ _⟩
    | some x =>
      have hmk : ∀ w : World, (Instr.makeSlice 41 (.int .i64 0) (.int .i64 0)).run Trym.prog w = .ok (.slice (some ⟨w.heap.size, 0, none⟩) 0 0) (w.alloc (.cells (madeCells #[.int .u64 0] 0) 23)) := fun w => run_make_row' (P := Trym.prog) 41 23 (.int .u64 0) 8 Trym.underlying41 Trym.info23 rfl .i64 .i64 0 (by omega) (by omega) w
      have fin : Calls Trym.prog 23 #[.slice (some x) 0 c] w fun e w' => e = .returned (.slice (some ⟨w.heap.size, 0, none⟩) 0 0) ∧ Below w.heap.size w w' := by
        go_enter Trym.func23, Trym.ntmps23
        go_wp2
        go_loopw [4] (fun i wr => i = .int .i64 0 ∧ Below w.heap.size w wr) (fun _ _ => 0)
        case atStart => exact ⟨rfl, (Below.refl _ _).alloc (Nat.le_refl _) _⟩
        case round =>
          obtain ⟨rfl, hb⟩ := hrel
          go_wp2
          go_ret
          exact ⟨rfl, hb⟩
      refine fin.mono ?_
      rintro e w' ⟨rfl, hb⟩
      exact ⟨_, rfl, fun h => absurd h (Nat.lt_irrefl _), fun i hi => absurd hi (Nat.not_lt_zero _), hb⟩

theorem clone16_opt (a : Option Addr) (n c : Nat) (z : Nat → Int) (w : World) (hn : n ≤ 1048576) (ha : 0 < n → ∃ b off, a = some ⟨b, off, none⟩ ∧ ∀ i, i < n → w.cell? ⟨b, off + i, none⟩ = some (.int .u16 (z i))) :
    Calls Trym.prog 24 #[.slice a n c] w fun e w' => ∃ a', e = .returned (.slice a' n n) ∧ (0 < n → a' = some ⟨w.heap.size, 0, none⟩) ∧ (∀ i, i < n → w'.cell? ⟨w.heap.size, i, none⟩ = some (.int .u16 (z i))) ∧ Below w.heap.size w w' := by
  by_cases h0 : 0 < n
  · obtain ⟨b, off, rfl, hc⟩ := ha h0
    refine (clone16_any b off n c z w hn hc).mono ?_
    rintro e w' ⟨rfl, hr, hb⟩
    exact ⟨_, rfl, fun _ => rfl, fun i hi => hr.cell hi, hb⟩
  · obtain rfl : n = 0 := by omega
    clear ha h0 hn
    have hnil : ∀ (w : World) (a : Option Addr) (n c n' c' : Nat), (binOp .eql 42 (.slice a n c) (.slice none n' c')).run Trym.prog w = .ok (.bool a.isNone) w := fun w a n c n' c' => Lib.run_eql_slice_nil w _ _ a n c n' c' Trym.underlying42
    cases a with
    | none =>
      have fin : Calls Trym.prog 24 #[.slice none 0 c] w fun e w' => e = .returned (.slice none 0 0) ∧ w' = w := by
        go_enter Trym.func24, Trym.ntmps24
        go_wp2
        go_ret
        exact ⟨rfl, rfl⟩
      refine fin.mono ?_
      rintro e w' ⟨rfl, rfl⟩
      exact ⟨none, rfl, fun h => absurd h (Nat.lt_irrefl _), fun i hi => absurd hi (Nat.not_lt_zero _), Below.refl _ _⟩
    | some x =>
      have hmk : ∀ w : World, (Instr.makeSlice 42 (.int .i64 0) (.int .i64 0)).run Trym.prog w = .ok (.slice (some ⟨w.heap.size, 0, none⟩) 0 0) (w.alloc (.cells (madeCells #[.int .u16 0] 0) 72)) := fun w => run_make_row' (P := Trym.prog) 42 72 (.int .u16 0) 2 Trym.underlying42 Trym.info72 rfl .i64 .i64 0 (by omega) (by omega) w
      have fin : Calls Trym.prog 24 #[.slice (some x) 0 c] w fun e w' => e = .returned (.slice (some ⟨w.heap.size, 0, none⟩) 0 0) ∧ Below w.heap.size w w' := by
        go_enter Trym.func24, Trym.ntmps24
        go_wp2
        go_loopw [4] (fun i wr => i = .int .i64 0 ∧ Below w.heap.size w wr) (fun _ _ => 0)
        case atStart => exact ⟨rfl, (Below.refl _ _).alloc (Nat.le_refl _) _⟩
        case round =>
          obtain ⟨rfl, hb⟩ := hrel
          go_wp2
          go_ret
          exact ⟨rfl, hb⟩
      refine fin.mono ?_
      rintro e w' ⟨rfl, hb⟩
      exact ⟨_, rfl, fun h => absurd h (Nat.lt_irrefl _), fun i hi => absurd hi (Nat.not_lt_zero _), hb⟩

/-- The different numbers of a slice, nil or not. -/
theorem seqs_opt (a : Option Addr) (b n c : Nat) (z : Nat → Int) (w : World) (hn : n ≤ 1048576) (ha : 0 < n → a = some ⟨b, 0, none⟩) (hc : ∀ i, i < n → w.cell? ⟨b, i, none⟩ = some (.int .u64 (z i))) :
    Calls Trym.prog 28 #[.slice a n c] w fun e w' => e = .returned (.int .i64 (Pl.dcnt z n : Nat)) ∧ Below w.heap.size w w' := by
  by_cases h0 : 0 < n
  · obtain rfl := ha h0
    exact seqs_any b 0 n c z w hn (fun i hi => by rw [Nat.zero_add]; exact hc i hi)
  · obtain rfl : n = 0 := by omega
    clear ha h0 hn hc
    have fin : Calls Trym.prog 28 #[.slice a 0 c] w fun e w' => e = .returned (.int .i64 0) ∧ Below w.heap.size w w' := by
      go_enter Trym.func28, Trym.ntmps28
      go_wp2
      go_loopw [3, 4] (fun t i wr => i = .int .i64 0 ∧ t = .int .i64 0 ∧ Below w.heap.size w wr) (fun _ _ _ => 0)
      case atStart => exact ⟨rfl, rfl, Below.refl _ _⟩
      case round =>
        obtain ⟨rfl, rfl, hb⟩ := hrel
        go_wp2
        go_ret
        exact ⟨rfl, hb⟩
    exact fin

end Go.Proofs.Qxb6001730aMods
