/-
  Proof of 'Rows.FnAbsentAndEmptyDocumentOverEveryPrefixSaid': for every slice of bytes (nil too) the law returns true and the slice reads as before.
  The frame (row's step) is the given shell's own; the walks and their lemmas are typed here.
-/
import Derived.Test.Qxb6613593aModsRows
import Derived.WalkKit
import Derived.ProofKit
import Derived.OpenShut
import Derived.ShutString
import Derived.ChangeOld
import Derived.Below
import Derived.Laws.BytesArg
namespace Go.Proofs.Qxb6613593aMods.fnAbsentAndEmptyDocumentOverEveryPrefix
open Go.ChangeShapes Go.WideShapes Go.ChangeAt Go.RowKit
open Go.ChangeMaps (open_string shut_string)
set_option linter.unusedVariables false

theorem own : ownKnob Trym.prog.godebug = none := by kernel_rfl
theorem laidOut : laidOutB Trym.prog = true := by kernel_rfl

/-- WHAT THE WALK IS TOLD OF A SLICE OF INTEGERS THAT CAME IN: it is nil; or it leads to a row of 'cap' cells, the numbers 'zs' (the first 'len' are its elements, the rest its spare room), each fitting its kind. -/
def IsRow (k : IntKind) (w : World) (a : Option Addr) (len cap : Nat) (zs : List Int) : Prop :=
  (a = none ∧ len = 0 ∧ cap = 0 ∧ zs = []) ∨
  ∃ x, a = some x ∧ len ≤ cap ∧ cap ≤ maxLen ∧ zs.length = cap ∧ (∀ i, i < zs.length → w.cell? (x.add i) = some (.int k (zs.getD i 0))) ∧ ∀ n ∈ zs, (Lit.int k n).wf = true

theorem byte_eq {n : Int} (h : 0 ≤ n ∧ n ≤ 255) (m : Nat) (hm : m < 256) : UInt8.ofNat n.toNat = UInt8.ofNat m ↔ n = (m : Int) := by
  constructor
  · intro e
    have := congrArg UInt8.toNat e
    simp at this
    omega
  · intro e
    subst e
    simp

theorem null_bytes (l : List Int) (hl : ∀ n ∈ l, 0 ≤ n ∧ n ≤ 255) : ((strOfNums l).toList == [110, 117, 108, 108]) = decide (l = [110, 117, 108, 108]) := by
  rw [ByteArray.toList_eq, strOfNums_data]
  rw [Bool.eq_iff_iff]
  simp only [beq_iff_eq, decide_eq_true_eq]
  constructor
  · intro e
    match l, hl, e with
    | [x, y, z, t], hl, e =>
      simp only [List.map_cons, List.map_nil, List.cons.injEq, and_true] at e
      have hx := (byte_eq (hl x (by simp)) 110 (by omega)).1 e.1
      have hy := (byte_eq (hl y (by simp)) 117 (by omega)).1 e.2.1
      have hz := (byte_eq (hl z (by simp)) 108 (by omega)).1 e.2.2.1
      have ht := (byte_eq (hl t (by simp)) 108 (by omega)).1 e.2.2.2
      rw [hx, hy, hz, ht]
      rfl
    | [], _, e => simp at e
    | [_], _, e => simp at e
    | [_, _], _, e => simp at e
    | [_, _, _], _, e => simp at e
    | _ :: _ :: _ :: _ :: _ :: _, _, e => simp at e
  · intro e
    subst e
    rfl

theorem null_take (zs : List Int) (len k : Nat) (hk : k ≤ len) (hl : len ≤ zs.length) :
    decide (zs.take k = [110, 117, 108, 108]) = (decide (4 ≤ len ∧ zs.take 4 = [110, 117, 108, 108]) && ((k : Int) == 4)) := by
  rw [Bool.eq_iff_iff]
  simp only [decide_eq_true_eq, Bool.and_eq_true, beq_iff_eq]
  constructor
  · intro e
    have h4 : (zs.take k).length = 4 := by rw [e]; rfl
    rw [List.length_take] at h4
    have hk4 : k = 4 := by omega
    subst hk4
    exact ⟨⟨by omega, e⟩, rfl⟩
  · rintro ⟨⟨_, e⟩, h⟩
    have hk4 : k = 4 := by omega
    subst hk4
    exact e
/-- 'string(b)' of a slice of no byte, whatever its address. -/
theorem conv_zero (p : Option Addr) (c : Nat) (w : World) : (convert 25 9 (.slice p 0 c)).run Trym.prog w = .ok (.string ByteArray.empty) w := by
  rw [run_convert_bytes_string w 25 9 5 _ 0 c Trym.underlying25 Trym.underlying5 Trym.underlying9]
  cases p <;> simp [Conv.bytesToString, loadCells]
  all_goals rfl

theorem isEmptyDoc (a : Option Addr) (k c : Nat) (s : ByteArray) (r : Bool) (w : World) (hcv : (convert 25 9 (.slice a k c)).run Trym.prog w = .ok (.string s) w) (hr : (s.toList == [110, 117, 108, 108]) = r) :
    Calls Trym.prog 5 #[.slice a k c] w fun e w' => e = .returned (.bool r) ∧ w' = w := by
  go_enter Trym.func5, Trym.ntmps5
  go_wp2
  go_ret
  exact ⟨rfl, rfl⟩

theorem isAbs_zero (a : Option Addr) (c : Nat) (w : World) :
    Calls Trym.prog 6 #[.slice a 0 c] w fun e w' => e = .returned (.bool true) ∧ w' = w := by
  go_enter Trym.func6, Trym.ntmps6
  go_wp2
  go_ret
  exact ⟨rfl, rfl⟩

theorem isAbs_pos (a : Option Addr) (k c : Nat) (hk : 0 < k) (s : ByteArray) (r : Bool) (w : World) (hcv : (convert 25 9 (.slice a k c)).run Trym.prog w = .ok (.string s) w) (hr : (s.toList == [110, 117, 108, 108]) = r) :
    Calls Trym.prog 6 #[.slice a k c] w fun e w' => e = .returned (.bool r) ∧ w' = w := by
  have h0 : ((k : Int) == 0) = false := by simp; omega
  go_enter Trym.func6, Trym.ntmps6
  go_wp2
  go_ret
  exact ⟨rfl, rfl⟩

/-- What the law needs of its argument: 'string(d[:k])' for k of one byte or more is S k, and it is 'null' exactly where sn says so and k is 4. -/
structure Reads (a : Option Addr) (len cap : Nat) (S : Nat → ByteArray) (sn : Bool) (w : World) : Prop where
  hc : len ≤ cap
  conv : ∀ k, 0 < k → k ≤ len → (convert 25 9 (.slice a k cap)).run Trym.prog w = .ok (.string (S k)) w
  doc : ∀ k, 0 < k → k ≤ len → ((S k).toList == [110, 117, 108, 108]) = (sn && ((k : Int) == 4))

theorem empty_doc : (ByteArray.empty.toList == [110, 117, 108, 108]) = false := by rw [ByteArray.toList_eq]; rfl

/-- The first four bytes are not 'null', as the law's own test says it. -/
def Not4 (a : Option Addr) (len : Nat) (w : World) : Prop :=
  len < 4 ∨ ∃ b off z0 z1 z2 z3, a = some ⟨b, off, none⟩ ∧ 4 ≤ len ∧ w.cell? ⟨b, off, none⟩ = some (.int .u8 z0) ∧ w.cell? ⟨b, off + 1, none⟩ = some (.int .u8 z1) ∧ w.cell? ⟨b, off + 2, none⟩ = some (.int .u8 z2) ∧ w.cell? ⟨b, off + 3, none⟩ = some (.int .u8 z3) ∧
    ((z0 == 110) = false ∨ (z0 == 110) = true ∧ (z1 == 117) = false ∨ (z0 == 110) = true ∧ (z1 == 117) = true ∧ (z2 == 108) = false ∨ (z0 == 110) = true ∧ (z1 == 117) = true ∧ (z2 == 108) = true ∧ (z3 == 108) = false)

set_option maxRecDepth 100000 in
set_option maxHeartbeats 1000000 in
theorem walk_no (a : Option Addr) (len cap : Nat) (S : Nat → ByteArray) (w : World) (hr : Reads a len cap S false w) (hn : Not4 a len w) (hm : (len : Int) ≤ 1048576) :
    Calls Trym.prog 3 #[.slice a len cap] w fun e w' => e = .returned (.bool true) ∧ Below w.heap.size w w' := by
  have hc := hr.hc
  have HR : Hid (Reads a len cap S false w) := hr
  clear hr
  rcases hn with hs | ⟨b, off, z0, z1, z2, z3, rfl, h4, c0, c1, c2, c3, hz | ⟨hz0, hz1⟩ | ⟨hz0, hz1, hz2⟩ | ⟨hz0, hz1, hz2, hz3⟩⟩
  all_goals
    go_enter Trym.func3, Trym.ntmps3
    go_wp2
    go_loop [4] (fun i => ∃ k : Nat, k ≤ len + 1 ∧ i = .int .i64 k) (fun i => len + 1 - (intOf i).toNat)
    case atStart => exact ⟨0, by omega, rfl⟩
    case round =>
      obtain ⟨k, hk, rfl⟩ := hrel
      by_cases hlt : k ≤ len
      · by_cases h0 : k = 0
        · subst h0
          go_wp2_with (first | (go_at_call 5; refine (isEmptyDoc _ 0 _ _ false _ (conv_zero _ _ _) empty_doc).mono ?_; rintro e w' ⟨rfl, rfl⟩) | (go_at_call 6; refine (isAbs_zero _ _ _).mono ?_; rintro e w' ⟨rfl, rfl⟩))
          go_round
          case rel => exact ⟨1, by omega, rfl⟩
          case measure => simp [intOf]
        · have hp : 0 < k := by omega
          have hk0 : ((k : Int) == 0) = false := by simp; omega
          clear h0
          go_wp2_with (first | (go_at_call 5; refine (isEmptyDoc _ k _ (S k) false _ (HR.out.conv k hp hlt) (HR.out.doc k hp hlt)).mono ?_; rintro e w' ⟨rfl, rfl⟩) | (go_at_call 6; refine (isAbs_pos _ k _ hp (S k) false _ (HR.out.conv k hp hlt) (HR.out.doc k hp hlt)).mono ?_; rintro e w' ⟨rfl, rfl⟩))
          go_round
          case rel => exact ⟨k + 1, by omega, by go_num⟩
          case measure => simp [intOf]; omega
      · go_wp2
        go_ret
        exact ⟨rfl, Below.refl _ _⟩

set_option maxRecDepth 100000 in
set_option maxHeartbeats 1000000 in
theorem walk_yes (b off len cap : Nat) (S : Nat → ByteArray) (w : World) (hr : Reads (some ⟨b, off, none⟩) len cap S true w) (h4 : 4 ≤ len) (hm : (len : Int) ≤ 1048576)
    (c0 : w.cell? ⟨b, off, none⟩ = some (.int .u8 110)) (c1 : w.cell? ⟨b, off + 1, none⟩ = some (.int .u8 117)) (c2 : w.cell? ⟨b, off + 2, none⟩ = some (.int .u8 108)) (c3 : w.cell? ⟨b, off + 3, none⟩ = some (.int .u8 108)) :
    Calls Trym.prog 3 #[.slice (some ⟨b, off, none⟩) len cap] w fun e w' => e = .returned (.bool true) ∧ Below w.heap.size w w' := by
  have hc := hr.hc
  have HR : Hid (Reads (some ⟨b, off, none⟩) len cap S true w) := hr
  clear hr
  go_enter Trym.func3, Trym.ntmps3
  go_wp2
  go_loop [4] (fun i => ∃ k : Nat, k ≤ len + 1 ∧ i = .int .i64 k) (fun i => len + 1 - (intOf i).toNat)
  case atStart => exact ⟨0, by omega, rfl⟩
  case round =>
    obtain ⟨k, hk, rfl⟩ := hrel
    by_cases hlt : k ≤ len
    · by_cases h0 : k = 0
      · subst h0
        go_wp2_with (first | (go_at_call 5; refine (isEmptyDoc _ 0 _ _ false _ (conv_zero _ _ _) empty_doc).mono ?_; rintro e w' ⟨rfl, rfl⟩) | (go_at_call 6; refine (isAbs_zero _ _ _).mono ?_; rintro e w' ⟨rfl, rfl⟩))
        go_round
        case rel => exact ⟨1, by omega, rfl⟩
        case measure => simp [intOf]
      · have hp : 0 < k := by omega
        have hk0 : ((k : Int) == 0) = false := by simp; omega
        clear h0
        have hd := HR.out.doc k hp hlt
        by_cases h4 : k = 4
        · have hk4 : ((k : Int) == 4) = true := by simp; omega
          have HD : Hid (((S k).toList == [110, 117, 108, 108]) = true) := by rw [hk4] at hd; exact hd
          clear hd h4
          go_wp2_with (first | (go_at_call 5; refine (isEmptyDoc _ k _ (S k) true _ (HR.out.conv k hp hlt) HD.out).mono ?_; rintro e w' ⟨rfl, rfl⟩) | (go_at_call 6; refine (isAbs_pos _ k _ hp (S k) true _ (HR.out.conv k hp hlt) HD.out).mono ?_; rintro e w' ⟨rfl, rfl⟩))
          go_round
          case rel => exact ⟨k + 1, by omega, by go_num⟩
          case measure => simp [intOf]; omega
        · have hk4 : ((k : Int) == 4) = false := by simp; omega
          have HD : Hid (((S k).toList == [110, 117, 108, 108]) = false) := by rw [hk4] at hd; exact hd
          clear hd h4
          go_wp2_with (first | (go_at_call 5; refine (isEmptyDoc _ k _ (S k) false _ (HR.out.conv k hp hlt) HD.out).mono ?_; rintro e w' ⟨rfl, rfl⟩) | (go_at_call 6; refine (isAbs_pos _ k _ hp (S k) false _ (HR.out.conv k hp hlt) HD.out).mono ?_; rintro e w' ⟨rfl, rfl⟩))
          go_round
          case rel => exact ⟨k + 1, by omega, by go_num⟩
          case measure => simp [intOf]; omega
    · go_wp2
      go_ret
      exact ⟨rfl, Below.refl _ _⟩

set_option maxHeartbeats 400000 in
theorem walk_long (a : Option Addr) (len cap : Nat) (w : World) (hm : ¬ (len : Int) ≤ 1048576) (hl : len ≤ 9223372036854775807) :
    Calls Trym.prog 3 #[.slice a len cap] w fun e w' => e = .returned (.bool true) ∧ Below w.heap.size w w' := by
  have hm' : (1048576 : Int) < len := by omega
  go_enter Trym.func3, Trym.ntmps3
  go_wp2
  go_ret
  exact ⟨rfl, Below.refl _ _⟩

theorem walk (a0 : Option Addr) (len0 cap0 : Nat) (z0 : List Int) (w : World) (w0 : IsRow .u8 w a0 len0 cap0 z0) :
    Calls Trym.prog 3 #[.slice a0 len0 cap0] w fun e w' => e = .returned (.bool true) ∧ Below w.heap.size w w' := by
  by_cases hm : (len0 : Int) ≤ 1048576
  · rcases w0 with ⟨rfl, rfl, rfl, rfl⟩ | ⟨x, rfl, hlc, hcm, hz, hcell, hwf⟩
    · exact walk_no none 0 0 (fun _ => ByteArray.empty) w ⟨Nat.le_refl _, fun k h1 h2 => by omega, fun k h1 h2 => by omega⟩ (.inl (by omega)) hm
    · have hb : ∀ n ∈ z0, 0 ≤ n ∧ n ≤ 255 := fun n hn => bounds_u8 (hwf n hn)
      have hR : Reads (some x) len0 cap0 (fun k => strOfNums (z0.take k)) (decide (4 ≤ len0 ∧ z0.take 4 = [110, 117, 108, 108])) w := by
        refine ⟨hlc, fun k h1 h2 => ?_, fun k h1 h2 => ?_⟩
        · obtain ⟨b, off, spot⟩ := x
          have hspot : spot = none := by simpa [Addr.add] using World.cell?_spot (hcell 0 (by omega))
          subst hspot
          refine run_convert_bytes_arg w 25 5 Trym.underlying25 Trym.underlying5 b off k cap0 (z0.take k) (by rw [List.length_take]; omega) (fun i hi => ?_) 9 Trym.underlying9
          rw [← add_plain, hcell i (by omega)]
          simp [hi]
        · rw [null_bytes _ (fun n hn => hb n (List.mem_of_mem_take hn)), null_take z0 len0 k h2 (by omega)]
      by_cases h4 : 4 ≤ len0
      · obtain ⟨b, off, spot⟩ := x
        have hspot : spot = none := by simpa [Addr.add] using World.cell?_spot (hcell 0 (by omega))
        subst hspot
        obtain ⟨y0, y1, y2, y3, r, rfl⟩ : ∃ y0 y1 y2 y3 r, z0 = y0 :: y1 :: y2 :: y3 :: r := by
          match z0, hz with
          | y0 :: y1 :: y2 :: y3 :: r, _ => exact ⟨y0, y1, y2, y3, r, rfl⟩
          | [], h => simp at h; omega
          | [_], h => simp at h; omega
          | [_, _], h => simp at h; omega
          | [_, _, _], h => simp at h; omega
        have c0 : w.cell? ⟨b, off, none⟩ = some (.int .u8 y0) := by have := hcell 0 (by simp); rw [add_plain] at this; simpa using this
        have c1 : w.cell? ⟨b, off + 1, none⟩ = some (.int .u8 y1) := by have := hcell 1 (by simp); rw [add_plain] at this; simpa using this
        have c2 : w.cell? ⟨b, off + 2, none⟩ = some (.int .u8 y2) := by have := hcell 2 (by simp); rw [add_plain] at this; simpa using this
        have c3 : w.cell? ⟨b, off + 3, none⟩ = some (.int .u8 y3) := by have := hcell 3 (by simp); rw [add_plain] at this; simpa using this
        by_cases hn : y0 = 110 ∧ y1 = 117 ∧ y2 = 108 ∧ y3 = 108
        · obtain ⟨rfl, rfl, rfl, rfl⟩ := hn
          have e : decide (4 ≤ len0 ∧ (110 :: 117 :: 108 :: 108 :: r : List Int).take 4 = [110, 117, 108, 108]) = true := by simp [h4]
          rw [e] at hR
          exact walk_yes b off len0 cap0 _ w hR h4 hm c0 c1 c2 c3
        · have e : decide (4 ≤ len0 ∧ (y0 :: y1 :: y2 :: y3 :: r).take 4 = [110, 117, 108, 108]) = false := by
            rw [decide_eq_false_iff_not]
            rintro ⟨_, e⟩
            simp at e
            exact hn e
          rw [e] at hR
          refine walk_no _ len0 cap0 _ w hR (.inr ⟨b, off, y0, y1, y2, y3, rfl, h4, c0, c1, c2, c3, ?_⟩) hm
          simp only [beq_iff_eq, beq_eq_false_iff_ne]
          by_cases e0 : y0 = 110
          · by_cases e1 : y1 = 117
            · by_cases e2 : y2 = 108
              · exact .inr (.inr (.inr ⟨e0, e1, e2, fun e3 => hn ⟨e0, e1, e2, e3⟩⟩))
              · exact .inr (.inr (.inl ⟨e0, e1, e2⟩))
            · exact .inr (.inl ⟨e0, e1⟩)
          · exact .inl e0
      · have e : decide (4 ≤ len0 ∧ z0.take 4 = [110, 117, 108, 108]) = false := by
          rw [decide_eq_false_iff_not]
          exact fun h => h4 h.1
        rw [e] at hR
        exact walk_no _ len0 cap0 _ w hR (.inl (by omega)) hm
  · refine walk_long a0 len0 cap0 w hm ?_
    rcases w0 with ⟨rfl, rfl, rfl, rfl⟩ | ⟨x, rfl, hlc, hcm, _⟩
    · omega
    · unfold maxLen at hcm
      omega

/-! ### THE ROW's STEP: WRITTEN OUT: LEAVE IT -/
set_option maxRecDepth 100000 in
theorem lifted (os : Os) (started : os.Started) (H : Type) (enc : TypeId × Value → H) :
    ReturnsInHanded {} Trym.checked os 3 .any (Rows.fnAbsentAndEmptyDocumentOverEveryPrefixSpec.pre6 enc Trym.prog Trym.f3 Rows.fnAbsentAndEmptyDocumentOverEveryPrefixRow.domain false) (Rows.fnAbsentAndEmptyDocumentOverEveryPrefixSpec.post enc Trym.prog Trym.f3 false true false false) := by
  refine returnsInHanded_of_change (C := Trym.checked) own started (by kernel_rfl) Trym.func3
    (ChangeSpec.witness6 (enc := enc) (C := Trym.checked) false ⟨#[], #[.slice none 0 0], []⟩ 8 (by kernel_rfl) (by kernel_rfl) (by kernel_rfl) (by kernel_rfl)) ?_
  intro W base args ds gs before hval0 hW hcnd _
  have hval : ∀ (j : Nat) t v, Trym.f3.params[j]? = some t → args[j]? = some v → Value.okWide Trym.prog W .any base t v := hval0
  have hW' := hW
  obtain ⟨p, q, hA0, hV, rfl, hfz, hnd⟩ := hW
  have hA : DataW.TrodAll enc Trym.prog W 0 (fun _ => true) true Trym.f3.params.toList args.toList ds p := hA0
  rw [Trym.params3] at hA hval
  obtain ⟨v0, vs0, d0, ds0, p0, q0, hargs, rfl, rfl, h0, r0⟩ := trodAll_cons hA
  obtain ⟨rfl, rfl, rfl⟩ := trodAll_nil r0
  obtain rfl : args = #[v0] := by cases args; simp_all
  obtain ⟨rfl, rfl⟩ := trodVars_none hV
  obtain ⟨a0, len0, cap0, rfl⟩ := okWide_slice Trym.underlying22 (hval 0 22 v0 rfl rfl)
  have k0 := h0
  have lt0 : ∀ x ∈ p0, x.block < W.heap.size := by obtain ⟨m, hm⟩ := k0; exact DataW.trod_lt m _ _ _ hm
  obtain ⟨z0, w0⟩ : ∃ zs, IsRow .u8 W a0 len0 cap0 zs := by
    obtain ⟨fuel, hf⟩ := h0
    rcases open_ints Trym.underlying22 Trym.underlying5 (by kernel_rfl) hf with ⟨hcs, _⟩ | ⟨x, l, c, zs, hcs, _, hl, hm, hz, _, hcell, hwz⟩
    · simp [Value.cells] at hcs
      obtain ⟨rfl, rfl, rfl⟩ := hcs
      exact ⟨[], .inl ⟨rfl, rfl, rfl, rfl⟩⟩
    · simp [Value.cells] at hcs
      obtain ⟨rfl, rfl, rfl⟩ := hcs
      exact ⟨zs, .inr ⟨_, rfl, hl, hm, by simpa using hz, hcell, hwz⟩⟩
  clear hA0 hval0
  refine (walk a0 len0 cap0 z0 W w0).mono fun e W' ⟨he, bel⟩ => ?_
  subst he
  exact ⟨_, rfl, _, _, _, [], _, [], hW', trodAll_mk1 (shut_bool Trym.underlying4 _), (trodAll_cons_mk (Below.trod laidOut (by kernel_rfl) (of_decide_eq_true (by kernel_rfl)) k0 bel lt0) trodAll_mk0), rfl, bel.frame _, fun h => by cases h⟩

theorem over : Rows.fnAbsentAndEmptyDocumentOverEveryPrefixRow.holds Trym.pinned (OpenSpec.ofChange Rows.fnAbsentAndEmptyDocumentOverEveryPrefixSpec) :=
  OpenClaim.holds_of_wide 3 Trym.f3 rfl rfl rfl rfl rfl rfl rfl ⟨rfl, rfl, rfl, rfl, rfl⟩ rfl rfl rfl rfl rfl (by kernel_rfl) Trym.func3 (by kernel_rfl)
    (of_decide_eq_true (by kernel_rfl)) (by unfold Func.isWrapper; first | (rw [if_pos (by decide +kernel)]; kernel_rfl) | (rw [if_neg (by decide +kernel)]; exact ⟨rfl, rfl⟩))
    (fun os started H enc _ => lifted os started H enc)

/-- ████ THE STATEMENT ████ -/
theorem proved : Rows.FnAbsentAndEmptyDocumentOverEveryPrefixSaid := over
#print axioms proved
end Go.Proofs.Qxb6613593aMods.fnAbsentAndEmptyDocumentOverEveryPrefix
