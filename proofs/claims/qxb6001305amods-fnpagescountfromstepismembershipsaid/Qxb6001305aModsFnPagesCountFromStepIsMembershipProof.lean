/-
  Proof of 'Rows.FnPagesCountFromStepIsMembershipSaid': for every slice of runs (nil too) and every uint32 the law returns true and the arguments read as before.
  The frame (row's step) is the skeleton tool's for a slice and an integer, its opening of the slice turned to elements of type [2]uint32; the walks and their lemmas are typed here.
-/
import Derived.Test.Qxb6001305aModsRows
import Derived.WalkKit
import Derived.ProofKit
import Derived.OpenShut
import Derived.ChangeOld
import Derived.Below
import Derived.Deep.Slices
import Derived.WalkSpells
import Derived.Deep.OwnRows
import Derived.Deep.QuietTactic
import Derived.BigQuiet
namespace Go.Proofs.Qxb6001305aMods.fnPagesCountFromStepIsMembership
open Go.ChangeShapes Go.WideShapes Go.ChangeAt Go.RowKit

theorem own : ownKnob Trym.prog.godebug = none := by kernel_rfl
theorem laidOut : laidOutB Trym.prog = true := by kernel_rfl
theorem cells25 : Trym.prog.cellsOf 25 = 2 := by kernel_rfl
theorem cells23 : Trym.prog.cellsOf 23 = 1 := by kernel_rfl

/-! ### THE PLAIN LAW: no Go in sight -/
/-- How many pages of the run a .. b are numbered f or more. -/
def contrib (a b f : Int) : Int := if f ≤ b then (b - if a < f then f else a) + 1 else 0
/-- .. of the first k runs. -/
def total (A B : Nat → Int) (f : Int) : Nat → Int
  | 0 => 0
  | k + 1 => total A B f k + contrib (A k) (B k) f
/-- How many of the first k runs hold page f. -/
def members (A B : Nat → Int) (f : Int) : Nat → Int
  | 0 => 0
  | k + 1 => members A B f k + if A k ≤ f ∧ f ≤ B k then 1 else 0

/-- Each of the first n runs: its first page is at most its last, both are uint32s. -/
structure Runs (n : Nat) (A B : Nat → Int) : Prop where
  lo : ∀ i, i < n → 0 ≤ A i
  le : ∀ i, i < n → A i ≤ B i
  hi : ∀ i, i < n → B i ≤ 4294967295

theorem contrib_bd {a b f : Int} (h0 : 0 ≤ a) (h1 : a ≤ b) (h2 : b ≤ 4294967295) : 0 ≤ contrib a b f ∧ contrib a b f ≤ 4294967296 := by
  unfold contrib
  repeat' split
  all_goals omega

theorem total_bd {n : Nat} {A B : Nat → Int} (h : Runs n A B) (f : Int) : ∀ k, k ≤ n → 0 ≤ total A B f k ∧ total A B f k ≤ (k : Int) * 4294967296
  | 0, _ => by simp [total]
  | k + 1, hk => by
    have ih := total_bd h f k (by omega)
    have c := contrib_bd (f := f) (h.lo k (by omega)) (h.le k (by omega)) (h.hi k (by omega))
    simp only [total]
    omega

theorem members_bd (A B : Nat → Int) (f : Int) : ∀ k : Nat, 0 ≤ members A B f k ∧ members A B f k ≤ (k : Int)
  | 0 => by simp [members]
  | k + 1 => by
    have ih := members_bd A B f k
    simp only [members]
    split <;> omega

theorem contrib_step {a b f : Int} (h : a ≤ b) : contrib a b f - contrib a b (f + 1) = if a ≤ f ∧ f ≤ b then 1 else 0 := by
  unfold contrib
  repeat' split
  all_goals omega

theorem total_step {n : Nat} {A B : Nat → Int} (h : Runs n A B) (f : Int) : ∀ k, k ≤ n → total A B f k - total A B (f + 1) k = members A B f k
  | 0, _ => by simp [total, members]
  | k + 1, hk => by
    have ih := total_step h f k (by omega)
    have c := contrib_step (f := f) (h.le k (by omega))
    simp only [total, members]
    omega

/-! ### countFrom -/
/-- The runs lie at b, off: run i's first page is A i, its last B i. -/
def PagesAt (w : World) (b off n : Nat) (A B : Nat → Int) : Prop :=
  ∀ i, i < n → w.cell? ⟨b, off + i * 2, none⟩ = some (.int .u32 (A i)) ∧ w.cell? ⟨b, off + i * 2 + 1, none⟩ = some (.int .u32 (B i))

set_option maxRecDepth 100000 in
set_option maxHeartbeats 400000 in
theorem countFrom (b off n cap : Nat) (A B : Nat → Int) (f : Int) (w : World) (hp : PagesAt w b off n A B) (hb : b < w.heap.size) (hn : n ≤ 65536) (hr : Runs n A B) (hf : 0 ≤ f ∧ f ≤ 4294967295) :
    Calls Trym.prog 10 #[.slice (some ⟨b, off, none⟩) n cap, .int .u32 f] w fun e w' => e = .returned (.int .i64 (total A B f n)) ∧ Below w.heap.size w w' := by
  have HR : Hid (Runs n A B) := hr
  have HP : Hid (PagesAt w b off n A B) := hp
  clear hr hp
  go_enter Trym.func10, Trym.ntmps10
  go_wp2
  go_loopw [5, 10] (fun t i wr => ∃ k : Nat, k ≤ n ∧ i = .int .i64 k ∧ t = .int .i64 (total A B f k) ∧ Hid (Below w.heap.size w wr)) (fun _ i _ => n - (intOf i).toNat)
  case atStart => exact ⟨0, by omega, rfl, rfl, Below.refl _ _⟩
  case round =>
    obtain ⟨k, hk, rfl, rfl, HBel⟩ := hrel
    by_cases hlt : k < n
    · have c0 : wr.cell? ⟨b, off + k * 2, none⟩ = some (.int .u32 (A k)) := (HBel.out.cell hb).trans (HP.out k hlt).1
      have c1 : wr.cell? ⟨b, off + k * 2 + 1, none⟩ = some (.int .u32 (B k)) := (HBel.out.cell hb).trans (HP.out k hlt).2
      have bA := HR.out.lo k hlt
      have bAB := HR.out.le k hlt
      have bB := HR.out.hi k hlt
      have bT := total_bd HR.out f k hk
      have bs : Hid (w.heap.size ≤ wr.heap.size) := HBel.out.size
      by_cases hge : f ≤ B k
      · have hs : Hid (total A B f (k + 1) = total A B f k + ((B k - if A k < f then f else A k) + 1)) := by
          show total A B f k + contrib (A k) (B k) f = _
          unfold contrib
          rw [if_pos hge]
        by_cases hm : A k < f
        all_goals
          go_wp2
          go_roundw
          case rel => exact ⟨k + 1, by omega, by go_num, by rw [hs.out]; first | rw [if_pos hm] | rw [if_neg hm], HBel.out.alloc bs.out _⟩
          case measure => simp [intOf]; omega
      · have hs : Hid (total A B f (k + 1) = total A B f k) := by
          show total A B f k + contrib (A k) (B k) f = _
          unfold contrib
          rw [if_neg hge]
          omega
        go_wp2
        go_roundw
        case rel => exact ⟨k + 1, by omega, by go_num, by rw [hs.out], HBel.out.alloc bs.out _⟩
        case measure => simp [intOf]; omega
    · obtain rfl : k = n := by omega
      go_wp2
      go_ret
      exact ⟨rfl, HBel.out⟩

theorem countFrom_zero (a : Option Addr) (cap : Nat) (f : Int) (w : World) :
    Calls Trym.prog 10 #[.slice a 0 cap, .int .u32 f] w fun e w' => e = .returned (.int .i64 0) ∧ Below w.heap.size w w' := by
  go_enter Trym.func10, Trym.ntmps10
  go_wp2
  refine wp_loop_rounds 1 ?_
  rw [rounds_succ]
  go_wp2
  go_ret
  exact ⟨rfl, Below.refl _ _⟩

/-- What the law needs of a slice of runs: there is none; or they lie in memory. -/
def PagesIn (w : World) (a : Option Addr) (n : Nat) (A B : Nat → Int) : Prop :=
  n = 0 ∨ ∃ b off, a = some ⟨b, off, none⟩ ∧ b < w.heap.size ∧ PagesAt w b off n A B

theorem zzCountFrom (a : Option Addr) (n cap : Nat) (A B : Nat → Int) (f : Int) (w : World) (hp : PagesIn w a n A B) (hn : n ≤ 65536) (hr : Runs n A B) (hf : 0 ≤ f ∧ f ≤ 4294967295) :
    Calls Trym.prog 7 #[.slice a n cap, .int .u32 f] w fun e w' => e = .returned (.int .i64 (total A B f n)) ∧ Below w.heap.size w w' := by
  have HR : Hid (Runs n A B) := hr
  clear hr
  rcases hp with rfl | ⟨b, off, rfl, hb, hp⟩
  · go_enter Trym.func7, Trym.ntmps7
    go_wp2_with (go_at_call 10; refine (countFrom_zero _ _ _ _).mono ?_; rintro e w' ⟨rfl, hB⟩)
    go_ret
    exact ⟨rfl, hB⟩
  · have HP : Hid (PagesAt w b off n A B) := hp
    clear hp
    go_enter Trym.func7, Trym.ntmps7
    go_wp2_with (go_at_call 10; refine (countFrom b off n cap A B f _ HP.out hb hn HR.out hf).mono ?_; rintro e w' ⟨rfl, hB⟩)
    go_ret
    exact ⟨rfl, hB⟩

/-! ### zzClonePages -/
theorem info25 : (Trym.prog.info? 25).map (fun i => (i.zero, i.size, i.bytes)) = some (some (.agg #[.int .u32 0, .int .u32 0]), 2, 8) := by kernel_rfl

/-- What 'make([][2]uint32, n)' lays: 2n zeros. -/
def made (n : Nat) : Array Value := madeCells #[.int .u32 0, .int .u32 0] (n * 2)
theorem run_made (n : Nat) (hn : n ≤ 65536) (w : World) :
    (Instr.makeSlice 22 (.int .i64 (n : Int)) (.int .i64 (n : Int))).run Trym.prog w = .ok (.slice (some ⟨w.heap.size, 0, none⟩) n n) (w.alloc (.cells (made n) 25)) := by
  obtain ⟨i, hi, hzz⟩ := Option.map_eq_some_iff.1 info25
  simp only [Prod.mk.injEq] at hzz
  obtain ⟨hz, hs, hb⟩ := hzz
  have hr := run_make (P := Trym.prog) w 22 25 i _ Trym.underlying22 hi hz .i64 .i64 n n (by omega) (Int.le_refl _) (by rw [hb]; omega) (by omega)
  simp only [Int.toNat_natCast, hs] at hr
  exact hr
theorem made_row (n : Nat) (w : World) : (w.alloc (.cells (made n) 25)).rowIs w.heap.size 25 (n * 2) (fun _ => .int .u32 0) := by
  refine ⟨made n, ?_, size_madeCells _ _, fun i hi => ?_⟩
  · show (w.heap.push _)[w.heap.size]? = _
    simp
  · rcases Nat.mod_two_eq_zero_or_one i with h | h <;> simp [made, madeCells, hi, h]

/-- A row in which run k is laid behind the first k. -/
theorem put_two (f : Nat → Value) (x y : Value) (X Y : Nat → Value) (k : Nat) (hx : x = X k) (hy : y = Y k) (h : ∀ i, i < k → f (i * 2) = X i ∧ f (i * 2 + 1) = Y i) (i : Nat) (hi : i < k + 1) :
    (if i * 2 = k * 2 + 1 then y else if i * 2 = k * 2 then x else f (i * 2)) = X i ∧ (if i * 2 + 1 = k * 2 + 1 then y else if i * 2 + 1 = k * 2 then x else f (i * 2 + 1)) = Y i := by
  by_cases e : i = k
  · subst e
    rw [if_neg (by omega), if_pos rfl, if_pos rfl]
    exact ⟨hx, hy⟩
  · rw [if_neg (by omega), if_neg (by omega), if_neg (by omega), if_neg (by omega)]
    exact h i (by omega)

theorem clone_nil (w : World) :
    Calls Trym.prog 6 #[.slice none 0 0] w fun e w' => e = .returned (.slice none 0 0) ∧ w' = w := by
  have hq := fun w => Lib.run_eql_slice_nil (P := Trym.prog) w 22 25 none 0 0 0 0 Trym.underlying22
  go_enter Trym.func6, Trym.ntmps6
  go_wp2
  go_ret
  exact ⟨rfl, rfl⟩

set_option maxRecDepth 100000 in
set_option maxHeartbeats 400000 in
theorem clone (b off n cap : Nat) (A B : Nat → Int) (w : World) (hp : PagesAt w b off n A B) (hb : b < w.heap.size) (hn : n ≤ 65536) :
    Calls Trym.prog 6 #[.slice (some ⟨b, off, none⟩) n cap] w fun e w' => e = .returned (.slice (some ⟨w.heap.size, 0, none⟩) n n) ∧ Below w.heap.size w w' ∧ PagesAt w' w.heap.size 0 n A B ∧ w.heap.size < w'.heap.size := by
  have hq := fun w => Lib.run_eql_slice_nil (P := Trym.prog) w 22 25 (some ⟨b, off, none⟩) n cap 0 0 Trym.underlying22
  have hmk := run_made n hn
  have HP : Hid (PagesAt w b off n A B) := hp
  clear hp
  go_enter Trym.func6, Trym.ntmps6
  go_wp2
  clear hq hmk
  go_loopw [4] (fun i wr => ∃ k : Nat, k ≤ n ∧ i = .int .i64 k ∧ ∃ f, Hid (wr.rowIs w.heap.size 25 (n * 2) f) ∧ Hid (∀ i, i < k → f (i * 2) = .int .u32 (A i) ∧ f (i * 2 + 1) = .int .u32 (B i)) ∧ Hid (Below w.heap.size w wr)) (fun i _ => n - (intOf i).toNat)
  case atStart => exact ⟨0, by omega, rfl, _, made_row n w, fun i hi => absurd hi (Nat.not_lt_zero _), (Below.refl _ _).alloc (Nat.le_refl _) _⟩
  case round =>
    obtain ⟨k, hk, rfl, f, HF, HE, HBel⟩ := hrel
    by_cases hlt : k < n
    · have c0 : wr.cell? ⟨b, off + k * 2, none⟩ = some (.int .u32 (A k)) := (HBel.out.cell hb).trans (HP.out k hlt).1
      have c1 : wr.cell? ⟨b, off + k * 2 + 1, none⟩ = some (.int .u32 (B k)) := (HBel.out.cell hb).trans (HP.out k hlt).2
      have d0 := HF.out.cell (i := k * 2) (by omega)
      have d1 := HF.out.cell (i := k * 2 + 1) (by omega)
      have g0 := HF.out.frozen (k * 2)
      have g1 := HF.out.frozen (k * 2 + 1)
      go_wp2
      go_roundw
      case rel =>
        refine ⟨k + 1, by omega, by go_num, _, (HF.out.set (k * 2) (.int .u32 (A k))).set (k * 2 + 1) (.int .u32 (B k)), fun i hi => ?_, (HBel.out.setCell (Nat.le_refl _) _).setCell (Nat.le_refl _) _⟩
        exact put_two f (.int .u32 (A k)) (.int .u32 (B k)) (fun i => .int .u32 (A i)) (fun i => .int .u32 (B i)) k rfl rfl HE.out i hi
      case measure => simp [intOf]; omega
    · obtain rfl : k = n := by omega
      go_wp2
      go_ret
      refine ⟨rfl, HBel.out, fun i hi => ?_, HF.out.lt⟩
      have e0 := HF.out.cell (i := i * 2) (by omega)
      have e1 := HF.out.cell (i := i * 2 + 1) (by omega)
      rw [(HE.out i hi).1] at e0
      rw [(HE.out i hi).2] at e1
      exact ⟨by rw [Nat.zero_add]; exact e0, by rw [Nat.zero_add]; exact e1⟩

theorem clone_zero (x : Addr) (cap : Nat) (w : World) :
    Calls Trym.prog 6 #[.slice (some x) 0 cap] w fun e w' => e = .returned (.slice (some ⟨w.heap.size, 0, none⟩) 0 0) ∧ Below w.heap.size w w' := by
  have hq := fun w => Lib.run_eql_slice_nil (P := Trym.prog) w 22 25 (some x) 0 cap 0 0 Trym.underlying22
  have hmk : ∀ w, (Instr.makeSlice 22 (.int .i64 0) (.int .i64 0)).run Trym.prog w = .ok (.slice (some ⟨w.heap.size, 0, none⟩) 0 0) (w.alloc (.cells (made 0) 25)) := run_made 0 (by omega)
  go_enter Trym.func6, Trym.ntmps6
  go_wp2
  refine wp_loop_rounds 1 ?_
  rw [rounds_succ]
  go_wp2
  go_ret
  exact ⟨rfl, (Below.refl _ _).alloc (Nat.le_refl _) _⟩

theorem cloneAny (a : Option Addr) (n cap : Nat) (A B : Nat → Int) (w : World) (hp : PagesIn w a n A B) (hnil : a = none → n = 0 ∧ cap = 0) (hn : n ≤ 65536) :
    Calls Trym.prog 6 #[.slice a n cap] w fun e w' => ∃ a' cap', e = .returned (.slice a' n cap') ∧ Below w.heap.size w w' ∧ PagesIn w' a' n A B := by
  rcases hp with rfl | ⟨b, off, rfl, hb, hp⟩
  · cases a with
    | none =>
      obtain ⟨_, rfl⟩ := hnil rfl
      refine (clone_nil w).mono ?_
      rintro e w' ⟨rfl, rfl⟩
      exact ⟨none, 0, rfl, Below.refl _ _, .inl rfl⟩
    | some x =>
      refine (clone_zero x cap w).mono ?_
      rintro e w' ⟨rfl, hB⟩
      exact ⟨_, _, rfl, hB, .inl rfl⟩
  · refine (clone b off n cap A B w hp hb hn).mono ?_
    rintro e w' ⟨rfl, hB, hP, hs⟩
    exact ⟨_, _, rfl, hB, .inr ⟨_, _, rfl, hs, hP⟩⟩

/-! ### The law -/
theorem drewN_drewN (w : World) (m n : Nat) : (w.drewN m).drewN n = w.drewN (m + n) := by simp [World.drewN, Nat.add_assoc]

theorem law_long (a : Option Addr) (n cap : Nat) (f : Int) (w : World) (hn : (65536 : Int) < n) (hm : n ≤ 9223372036854775807) :
    Calls Trym.prog 3 #[.slice a n cap, .int .u32 f] w fun e w' => e = .returned (.bool true) ∧ Below w.heap.size w w' := by
  by_cases h20 : (1048576 : Int) < n
  · go_enter Trym.func3, Trym.ntmps3
    go_wp2
    go_ret
    exact ⟨rfl, Below.refl _ _⟩
  · go_enter Trym.func3, Trym.ntmps3
    go_wp2
    go_ret
    exact ⟨rfl, Below.refl _ _⟩

theorem law_max (a : Option Addr) (n cap : Nat) (f : Int) (w : World) (hn : n ≤ 65536) (hf : (f == 4294967295) = true) :
    Calls Trym.prog 3 #[.slice a n cap, .int .u32 f] w fun e w' => e = .returned (.bool true) ∧ Below w.heap.size w w' := by
  go_enter Trym.func3, Trym.ntmps3
  go_wp2
  go_ret
  exact ⟨rfl, Below.refl _ _⟩

theorem below_chain {w wr w1 w2 w3 : World} (h0 : Below w.heap.size w wr) (h1 : Below wr.heap.size wr w1) (h2 : Below w1.heap.size w1 w2) (h3 : Below w2.heap.size w2 w3) : Below w.heap.size w w3 := by
  have s0 := h0.size
  have s1 := h1.size
  have s2 := h2.size
  exact ((h0.trans (h1.mono (by omega))).trans (h2.mono (by omega))).trans (h3.mono (by omega))

set_option maxRecDepth 100000 in
set_option maxHeartbeats 1000000 in
theorem law_some (b off n cap : Nat) (A B : Nat → Int) (f : Int) (w : World) (hp : PagesAt w b off n A B) (hb : b < w.heap.size) (hn : n ≤ 65536)
    (hA : ∀ i, i < n → 0 ≤ A i) (hB : ∀ i, i < n → B i ≤ 4294967295) (hf : 0 ≤ f ∧ f < 4294967295) :
    Calls Trym.prog 3 #[.slice (some ⟨b, off, none⟩) n cap, .int .u32 f] w fun e w' => e = .returned (.bool true) ∧ Below w.heap.size w w' := by
  have hfm : (f == 4294967295) = false := by simp; omega
  have hn1 : ¬ (1048576 : Int) < n := by omega
  have hn2 : ¬ (65536 : Int) < n := by omega
  have HP : Hid (PagesAt w b off n A B) := hp
  have HA : Hid (∀ i, i < n → 0 ≤ A i) := hA
  have HB : Hid (∀ i, i < n → B i ≤ 4294967295) := hB
  clear hp hA hB
  go_enter Trym.func3, Trym.ntmps3
  go_wp2
  go_loopw [5] (fun i wr => ∃ k : Nat, k ≤ n ∧ i = .int .i64 k ∧ Hid (∀ i, i < k → A i ≤ B i) ∧ Hid (∃ m, wr = w.drewN m)) (fun i _ => n - (intOf i).toNat)
  case atStart => exact ⟨0, by omega, rfl, fun i hi => absurd hi (Nat.not_lt_zero _), 0, rfl⟩
  case round =>
    obtain ⟨k, hk, rfl, HL, HW⟩ := hrel
    have HBel : Hid (Below w.heap.size w wr) := by
      obtain ⟨m, rfl⟩ := HW.out
      exact (Below.refl _ _).trans ⟨rfl, rfl, rfl, Nat.le_refl _, fun _ _ => rfl⟩
    by_cases hlt : k < n
    · have hlt' : (k : Int) < (n : Int) := by omega
      have c0 : wr.cell? ⟨b, off + k * 2, none⟩ = some (.int .u32 (A k)) := (HBel.out.cell hb).trans (HP.out k hlt).1
      have c1 : wr.cell? ⟨b, off + k * 2 + 1, none⟩ = some (.int .u32 (B k)) := (HBel.out.cell hb).trans (HP.out k hlt).2
      by_cases hle : A k ≤ B k
      · go_wp2
        go_quiet (fail)
        go_wp2
        go_roundw
        case rel =>
          refine ⟨k + 1, by omega, by go_num, fun i hi => ?_, ?_⟩
          · by_cases e : i = k
            · subst e; exact hle
            · exact HL.out i (by omega)
          · obtain ⟨m, hm⟩ := HW.out
            exact ⟨m + nq, by rw [hm]; exact drewN_drewN w m nq⟩
        case measure => simp [intOf]; omega
      · go_wp2
        go_quiet (fail)
        go_wp2
        go_ret
        exact ⟨rfl, HBel.out.trans ⟨rfl, rfl, rfl, Nat.le_refl _, fun _ _ => rfl⟩⟩
    · obtain rfl : k = n := by omega
      have HP1 : Hid (PagesAt wr b off k A B) := fun i hi => ⟨(HBel.out.cell hb).trans (HP.out i hi).1, (HBel.out.cell hb).trans (HP.out i hi).2⟩
      have hb1 : b < wr.heap.size := Nat.lt_of_lt_of_le hb HBel.out.size
      have HRuns : Hid (Runs k A B) := ⟨HA.out, HL.out, HB.out⟩
      go_wp2_with (go_at_call 6; refine (clone b off k cap A B _ HP1.out hb1 hn).mono ?_; rintro e w1 ⟨rfl, hB1, hP1, hs1⟩)
      have HB1 : Hid (Below wr.heap.size wr w1) := hB1
      have HP2 : Hid (PagesAt w1 wr.heap.size 0 k A B) := hP1
      clear hB1 hP1
      go_loop [6, 7] (fun t i => ∃ j : Nat, j ≤ k ∧ i = .int .i64 j ∧ t = .int .i64 (members A B f j)) (fun _ i => k - (intOf i).toNat)
      case atStart => exact ⟨0, by omega, rfl, rfl⟩
      case round =>
        obtain ⟨j, hj, rfl, rfl⟩ := hrel
        have bm := members_bd A B f j
        by_cases hjl : j < k
        · have c0 : w1.cell? ⟨wr.heap.size, j * 2, none⟩ = some (.int .u32 (A j)) := by simpa using (HP2.out j hjl).1
          have c1 : w1.cell? ⟨wr.heap.size, j * 2 + 1, none⟩ = some (.int .u32 (B j)) := by simpa using (HP2.out j hjl).2
          by_cases h1 : A j ≤ f
          · by_cases h2 : f ≤ B j
            · have hs : Hid (members A B f (j + 1) = members A B f j + 1) := by
                show members A B f j + (if A j ≤ f ∧ f ≤ B j then 1 else 0) = _
                rw [if_pos ⟨h1, h2⟩]
              go_wp2
              go_round
              case rel => exact ⟨j + 1, by omega, by go_num, by rw [hs.out]⟩
              case measure => simp [intOf]; omega
            · have hs : Hid (members A B f (j + 1) = members A B f j) := by
                show members A B f j + (if A j ≤ f ∧ f ≤ B j then 1 else 0) = _
                rw [if_neg (fun h => h2 h.2)]
                omega
              go_wp2
              go_round
              case rel => exact ⟨j + 1, by omega, by go_num, by rw [hs.out]⟩
              case measure => simp [intOf]; omega
          · have hs : Hid (members A B f (j + 1) = members A B f j) := by
              show members A B f j + (if A j ≤ f ∧ f ≤ B j then 1 else 0) = _
              rw [if_neg (fun h => h1 h.1)]
              omega
            go_wp2
            go_round
            case rel => exact ⟨j + 1, by omega, by go_num, by rw [hs.out]⟩
            case measure => simp [intOf]; omega
        · obtain rfl : j = k := by omega
          have bh := total_bd HRuns.out f j (Nat.le_refl _)
          have bl := total_bd HRuns.out (f + 1) j (Nat.le_refl _)
          have hst : Hid (total A B f j - total A B (f + 1) j = members A B f j) := total_step HRuns.out f j (Nat.le_refl _)
          go_wp2_with fail
          refine (zzCountFrom _ j j A B f _ (.inr ⟨_, _, rfl, hs1, HP2.out⟩) hn HRuns.out (by omega)).mono ?_
          rintro e w2 ⟨rfl, hB2⟩
          have HB2 : Hid (Below w1.heap.size w1 w2) := hB2
          clear hB2
          have HP3 : Hid (PagesAt w2 wr.heap.size 0 j A B) := fun i hi => ⟨(HB2.out.cell hs1).trans (HP2.out i hi).1, (HB2.out.cell hs1).trans (HP2.out i hi).2⟩
          have hs2 : wr.heap.size < w2.heap.size := Nat.lt_of_lt_of_le hs1 HB2.out.size
          go_wp2_with fail
          refine (zzCountFrom _ j j A B (f + 1) _ (.inr ⟨_, _, rfl, hs2, HP3.out⟩) hn HRuns.out (by omega)).mono ?_
          rintro e w3 ⟨rfl, hB3⟩
          have HB3 : Hid (Below w2.heap.size w2 w3) := hB3
          clear hB3
          go_wp2
          go_ret
          exact ⟨rfl, below_chain HBel.out HB1.out HB2.out HB3.out⟩

set_option maxRecDepth 100000 in
set_option maxHeartbeats 1000000 in
theorem law_zero (a : Option Addr) (cap : Nat) (f : Int) (w : World) (hnil : a = none → cap = 0) (hf : 0 ≤ f ∧ f < 4294967295) :
    Calls Trym.prog 3 #[.slice a 0 cap, .int .u32 f] w fun e w' => e = .returned (.bool true) ∧ Below w.heap.size w w' := by
  have hfm : (f == 4294967295) = false := by simp; omega
  have HN : Hid (a = none → cap = 0) := hnil
  clear hnil
  go_enter Trym.func3, Trym.ntmps3
  go_wp2
  refine wp_loop_rounds 1 ?_
  rw [rounds_succ]
  go_wp2_with (go_at_call 6; refine (cloneAny a 0 cap (fun _ => 0) (fun _ => 0) _ (.inl rfl) (fun h => ⟨rfl, HN.out h⟩) (by omega)).mono ?_; rintro e w1 ⟨a', cap', rfl, hB1, hP1⟩)
  have HB1 : Hid (Below w.heap.size w w1) := hB1
  clear hB1 hP1
  refine wp_loop_rounds 1 ?_
  rw [rounds_succ]
  go_wp2_with fail
  refine (zzCountFrom _ 0 _ (fun _ => 0) (fun _ => 0) f _ (.inl rfl) (by omega) ⟨fun i hi => absurd hi (Nat.not_lt_zero _), fun i hi => absurd hi (Nat.not_lt_zero _), fun i hi => absurd hi (Nat.not_lt_zero _)⟩ (by omega)).mono ?_
  rintro e w2 ⟨rfl, hB2⟩
  have HB2 : Hid (Below w1.heap.size w1 w2) := hB2
  clear hB2
  go_wp2_with fail
  refine (zzCountFrom _ 0 _ (fun _ => 0) (fun _ => 0) (f + 1) _ (.inl rfl) (by omega) ⟨fun i hi => absurd hi (Nat.not_lt_zero _), fun i hi => absurd hi (Nat.not_lt_zero _), fun i hi => absurd hi (Nat.not_lt_zero _)⟩ (by omega)).mono ?_
  rintro e w3 ⟨rfl, hB3⟩
  have HB3 : Hid (Below w2.heap.size w2 w3) := hB3
  clear hB3
  have e1 : total (fun _ => 0) (fun _ => 0) f 0 = 0 := rfl
  have e2 : total (fun _ => 0) (fun _ => 0) (f + 1) 0 = 0 := rfl
  go_wp2
  go_ret
  exact ⟨rfl, below_chain (Below.refl _ _) HB1.out HB2.out HB3.out⟩

/-! ### THE SLICE THAT CAME IN -/
/-- What the walk is told of the slice of runs that came in: it is nil; or it leads to runs, run i's first page A i, its last B i, each a uint32. -/
def IsPages (w : World) (a : Option Addr) (len cap : Nat) (A B : Nat → Int) : Prop :=
  (a = none ∧ len = 0 ∧ cap = 0) ∨
  ∃ x, a = some x ∧ len ≤ cap ∧ cap ≤ maxLen ∧ ∀ i, i < len → w.cell? (x.add (i * 2)) = some (.int .u32 (A i)) ∧ w.cell? (x.add (i * 2 + 1)) = some (.int .u32 (B i)) ∧ (0 ≤ A i ∧ A i ≤ 4294967295) ∧ (0 ≤ B i ∧ B i ≤ 4294967295)

theorem open_pages {H : Type} {enc : TypeId × Value → H} {w : World} {base : Nat} {spare : Nat → Bool} {held : Bool} {fuel : Nat} {cs : List Value} {x : DataW H × List MemPlace}
    (h : DataW.trod enc Trym.prog w base spare held fuel 22 cs = some x) :
    ∃ a len cap A B, cs = [.slice a len cap] ∧ IsPages w a len cap A B := by
  rcases Deep.open_slice Trym.underlying22 h with ⟨h0, _⟩ | ⟨a, len, cap, m, n, D, Pl, hcs, _, hl, hm, hmm, _, hx⟩
  · exact ⟨none, 0, 0, fun _ => 0, fun _ => 0, h0, .inl ⟨rfl, rfl, rfl⟩⟩
  · have hlm : len ≤ m := by rw [hmm]; split <;> omega
    have each : ∀ i, i < len → ∃ q : Int × Int, w.cell? (a.add (i * 2)) = some (.int .u32 q.1) ∧ w.cell? (a.add (i * 2 + 1)) = some (.int .u32 q.2) ∧ (0 ≤ q.1 ∧ q.1 ≤ 4294967295) ∧ (0 ≤ q.2 ∧ q.2 ≤ 4294967295) := by
      intro i hi
      obtain ⟨cs', h1, h2⟩ := hx i (by omega)
      rw [cells25] at h1
      obtain ⟨_, hlen, hcell⟩ := World.cells?_some h1
      obtain ⟨xs, k, _, _, _, hxl, hf⟩ := DataW.trod_array Trym.underlying25 h2
      rw [cells23] at hf
      match xs, hxl, cs', hlen with
      | [y0, y1], _, [v0, v1], _ =>
        have g0 := hf 0 (by omega)
        have g1 := hf 1 (by omega)
        simp at g0 g1
        obtain ⟨n0, e0, _, wf0⟩ := DataW.trod_int Trym.underlying23 g0
        obtain ⟨n1, e1, _, wf1⟩ := DataW.trod_int Trym.underlying23 g1
        simp only [List.cons.injEq, and_true] at e0 e1
        have f0 := hcell 0 (by omega)
        have f1 := hcell 1 (by omega)
        rw [Deep.add_add] at f0 f1
        subst e0 e1
        exact ⟨(n0, n1), by simpa using f0, by simpa using f1, bounds_u32 wf0, bounds_u32 wf1⟩
    obtain ⟨q, hq⟩ := Deep.choose_lt each
    exact ⟨some a, len, cap, fun i => (q i).1, fun i => (q i).2, hcs, .inr ⟨a, rfl, hl, hm, hq⟩⟩

theorem walk (a0 : Option Addr) (len0 cap0 : Nat) (A B : Nat → Int) (a1 : Int) (w : World) (w0 : IsPages w a0 len0 cap0 A B) (w1 : (Lit.int .u32 a1).wf = true) :
    Calls Trym.prog 3 #[.slice a0 len0 cap0, .int .u32 a1] w fun e w' => e = .returned (.bool true) ∧ Below w.heap.size w w' := by
  have hf := bounds_u32 w1
  by_cases hn : (65536 : Int) < len0
  · refine law_long a0 len0 cap0 a1 w hn ?_
    rcases w0 with ⟨_, rfl, _⟩ | ⟨x, _, hlc, hcm, _⟩
    · omega
    · unfold maxLen at hcm
      omega
  · by_cases hm : (a1 == 4294967295) = true
    · exact law_max a0 len0 cap0 a1 w (by omega) hm
    · have hm' : a1 < 4294967295 := by
        have : ¬ a1 = 4294967295 := by simpa using hm
        omega
      rcases w0 with ⟨rfl, rfl, rfl⟩ | ⟨x, rfl, hlc, hcm, hx⟩
      · exact law_zero none 0 a1 w (fun _ => rfl) ⟨hf.1, hm'⟩
      · by_cases h0 : len0 = 0
        · subst h0
          exact law_zero (some x) cap0 a1 w (fun h => by cases h) ⟨hf.1, hm'⟩
        · obtain ⟨b, off, spot⟩ := x
          have hspot : spot = none := by simpa [Addr.add] using World.cell?_spot (hx 0 (by omega)).1
          subst hspot
          have hP : PagesAt w b off len0 A B := fun i hi => by
            have h2 := hx i hi
            rw [add_plain, add_plain] at h2
            exact ⟨h2.1, by rw [Nat.add_assoc]; exact h2.2.1⟩
          have hb : b < w.heap.size := World.block_lt_of_cell? _ _ (hP 0 (by omega)).1
          exact law_some b off len0 cap0 A B a1 w hP hb (by omega) (fun i hi => (hx i hi).2.2.1.1) (fun i hi => (hx i hi).2.2.2.2) ⟨hf.1, hm'⟩

/-! ### THE ROW's STEP -/
set_option maxRecDepth 100000 in
theorem lifted (os : Os) (started : os.Started) (H : Type) (enc : TypeId × Value → H) :
    ReturnsInHanded {} Trym.checked os 3 .any (Rows.fnPagesCountFromStepIsMembershipSpec.pre6 enc Trym.prog Trym.f3 Rows.fnPagesCountFromStepIsMembershipRow.domain false) (Rows.fnPagesCountFromStepIsMembershipSpec.post enc Trym.prog Trym.f3 false true false false) := by
  refine returnsInHanded_of_change (C := Trym.checked) own started (by kernel_rfl) Trym.func3
    (ChangeSpec.witness6 (enc := enc) (C := Trym.checked) false ⟨#[], #[.slice none 0 0, .int .u32 0], []⟩ 8 (by kernel_rfl) (by kernel_rfl) (by kernel_rfl) (by kernel_rfl)) ?_
  intro W base args ds gs before hval0 hW hcnd _
  have hval : ∀ (j : Nat) t v, Trym.f3.params[j]? = some t → args[j]? = some v → Value.okWide Trym.prog W .any base t v := hval0
  have hW' := hW
  obtain ⟨p, q, hA0, hV, rfl, hfz, hnd⟩ := hW
  have hA : DataW.TrodAll enc Trym.prog W 0 (fun _ => true) true Trym.f3.params.toList args.toList ds p := hA0
  rw [Trym.params3] at hA hval
  obtain ⟨v0, vs0, d0, ds0, p0, q0, hargs, rfl, rfl, h0, r0⟩ := trodAll_cons hA
  obtain ⟨v1, vs1, d1, ds1, p1, q1, rfl, rfl, rfl, h1, r1⟩ := trodAll_cons r0
  obtain ⟨rfl, rfl, rfl⟩ := trodAll_nil r1
  obtain rfl : args = #[v0, v1] := by cases args; simp_all
  obtain ⟨rfl, rfl⟩ := trodVars_none hV
  obtain ⟨a0, len0, cap0, rfl⟩ := okWide_slice Trym.underlying22 (hval 0 22 v0 rfl rfl)
  have k0 := h0
  have lt0 : ∀ x ∈ p0, x.block < W.heap.size := by obtain ⟨m, hm⟩ := k0; exact DataW.trod_lt m _ _ _ hm
  obtain ⟨A, B, w0⟩ : ∃ A B, IsPages W a0 len0 cap0 A B := by
    obtain ⟨fuel, hf⟩ := h0
    obtain ⟨a, l, c, A, B, hcs, hI⟩ := open_pages hf
    simp [Value.cells] at hcs
    obtain ⟨rfl, rfl, rfl⟩ := hcs
    exact ⟨A, B, hI⟩
  obtain ⟨a1, rfl, rfl, rfl, w1⟩ := open_int Trym.underlying23 (hval 1 23 v1 rfl rfl) h1
  clear hA0 hval0
  refine (walk a0 len0 cap0 A B a1 W w0 w1).mono fun e W' ⟨he, bel⟩ => ?_
  subst he
  exact ⟨_, rfl, _, _, _, [], _, [], hW', trodAll_mk1 (shut_bool Trym.underlying4 _), (trodAll_cons_mk (Below.trod laidOut (by kernel_rfl) (of_decide_eq_true (by kernel_rfl)) k0 bel lt0) (trodAll_cons_mk (shut_int Trym.underlying23 w1) trodAll_mk0)), rfl, bel.frame _, fun h => by cases h⟩

theorem over : Rows.fnPagesCountFromStepIsMembershipRow.holds Trym.pinned (OpenSpec.ofChange Rows.fnPagesCountFromStepIsMembershipSpec) :=
  OpenClaim.holds_of_wide 3 Trym.f3 rfl rfl rfl rfl rfl rfl rfl ⟨rfl, rfl, rfl, rfl, rfl⟩ rfl rfl rfl rfl rfl (by kernel_rfl) Trym.func3 (by kernel_rfl)
    (of_decide_eq_true (by kernel_rfl)) (by unfold Func.isWrapper; first | (rw [if_pos (by decide +kernel)]; kernel_rfl) | (rw [if_neg (by decide +kernel)]; exact ⟨rfl, rfl⟩))
    (fun os started H enc _ => lifted os started H enc)

/-- ████ THE STATEMENT ████ -/
theorem proved : Rows.FnPagesCountFromStepIsMembershipSaid := over
#print axioms proved
end Go.Proofs.Qxb6001305aMods.fnPagesCountFromStepIsMembership
