/-
  Proof of 'Rows.FnMadeAtExactlyOneParallelismSaid': for every variant, memory, iterations, parallelism the law returns true and the arguments read as before.
  The frame (row's step) is the given shell's own; the walk and its lemmas are typed here.
-/
import Derived.Test.Qxb6613221aModsRows
import Derived.WalkKit
import Derived.ProofKit
import Derived.OpenShut
import Derived.ShutString
import Derived.Deep.QuietTactic
import Derived.BigQuiet
namespace Go.Proofs.Qxb6613221aMods.fnMadeAtExactlyOneParallelism
open Go.ChangeShapes Go.WideShapes Go.ChangeAt Go.RowKit
open Go.ChangeMaps (open_string shut_string)
set_option linter.unusedVariables false      -- a walk need not use every 'w<i>' (that an integer argument fits its kind)

theorem own : ownKnob Trym.prog.godebug = none := by kernel_rfl

/-! ### STEP 1: THE WALK. madeAt (a region that draws, guarded) by two contracts, its guard decided ahead; ZZmadeAt over it; the loop over 256 degrees by go_loopw. -/
/-- The hash that the law makes lies at block b: variant, memory, iterations, parallelism. -/
structure HashAt (v : ByteArray) (m t p : Int) (b : Nat) (w : World) : Prop where
  c0 : w.cell? ⟨b, 0, none⟩ = some (.string v)
  c2 : w.cell? ⟨b, 2, none⟩ = some (.int .u32 m)
  c3 : w.cell? ⟨b, 3, none⟩ = some (.int .u32 t)
  c4 : w.cell? ⟨b, 4, none⟩ = some (.int .u8 p)
  hb : b < w.heap.size

set_option maxHeartbeats 400000 in
theorem madeAt_no (v : ByteArray) (m t p q : Int) (b : Nat) (w : World) (h : HashAt v m t p b w) (hv : (v.toList == [97, 114, 103, 111, 110, 50, 105, 100]) = false) :
    Calls Trym.prog 7 #[.pointer (some ⟨b, 0, none⟩), .agg #[.int .u32 m, .int .u32 t, .int .u8 q]] w fun e w' => e = .returned (.bool false) ∧ ∃ n, w' = (w.alloc (.cells #[.int .u32 m, .int .u32 t, .int .u8 q] 34)).drewN n := by
  obtain ⟨c0, c2, c3, c4, hb⟩ := h
  go_enter Trym.func7, Trym.ntmps7
  go_wp2
  go_quiet (fail)
  go_wp2
  go_ret
  exact ⟨rfl, _, rfl⟩

set_option maxHeartbeats 400000 in
theorem madeAt_yes (v : ByteArray) (m t p q : Int) (b : Nat) (w : World) (h : HashAt v m t p b w) (hv : (v.toList == [97, 114, 103, 111, 110, 50, 105, 100]) = true) :
    Calls Trym.prog 7 #[.pointer (some ⟨b, 0, none⟩), .agg #[.int .u32 m, .int .u32 t, .int .u8 q]] w fun e w' => e = .returned (.bool (p == q)) ∧ ∃ n, w' = (w.alloc (.cells #[.int .u32 m, .int .u32 t, .int .u8 q] 34)).drewN n := by
  obtain ⟨c0, c2, c3, c4, hb⟩ := h
  go_enter Trym.func7, Trym.ntmps7
  go_wp2
  go_quiet (fail)
  go_wp2
  go_ret
  exact ⟨rfl, _, rfl⟩

def isId (v : ByteArray) : Bool := v.toList == [97, 114, 103, 111, 110, 50, 105, 100]

theorem madeAt (v : ByteArray) (m t p q : Int) (b : Nat) (r : Bool) (w : World) (h : HashAt v m t p b w) (hr : r = (isId v && (p == q))) :
    Calls Trym.prog 7 #[.pointer (some ⟨b, 0, none⟩), .agg #[.int .u32 m, .int .u32 t, .int .u8 q]] w fun e w' => e = .returned (.bool r) ∧ ∃ n, w' = (w.alloc (.cells #[.int .u32 m, .int .u32 t, .int .u8 q] 34)).drewN n := by
  cases hv : isId v with
  | true =>
    refine (madeAt_yes v m t p q b w h hv).mono ?_
    rintro e w' ⟨rfl, h2⟩
    exact ⟨by rw [hr, hv]; rfl, h2⟩
  | false =>
    refine (madeAt_no v m t p q b w h hv).mono ?_
    rintro e w' ⟨rfl, h2⟩
    exact ⟨by rw [hr, hv]; rfl, h2⟩

set_option maxHeartbeats 400000 in
theorem zzMadeAt (v : ByteArray) (m t p q : Int) (b : Nat) (r : Bool) (w : World) (h : HashAt v m t p b w) (hr : r = (isId v && (p == q))) :
    Calls Trym.prog 6 #[.pointer (some ⟨b, 0, none⟩), .int .u32 m, .int .u32 t, .int .u8 q] w fun e w' => e = .returned (.bool r) ∧ ∃ n, w' = (w.alloc (.cells #[.int .u32 m, .int .u32 t, .int .u8 q] 34)).drewN n := by
  have HR : Hid (r = (isId v && (p == q))) := hr
  have HH : Hid (HashAt v m t p b w) := h
  clear hr h
  go_enter Trym.func6, Trym.ntmps6
  go_wp2_with (go_at_call 7; refine (madeAt v m t p q b r _ HH.out HR.out).mono ?_; rintro e w' ⟨rfl, n, rfl⟩)
  go_ret
  exact ⟨rfl, _, rfl⟩

theorem HashAt.alloc {v : ByteArray} {m t p : Int} {b : Nat} {w : World} (h : HashAt v m t p b w) (o : Obj) (n : Nat) : HashAt v m t p b ((w.alloc o).drewN n) := by
  have hB : Below w.heap.size w ((w.alloc o).drewN n) := ((Below.refl _ _).alloc (Nat.le_refl _) o).trans ⟨rfl, rfl, rfl, Nat.le_refl _, fun _ _ => rfl⟩
  exact ⟨(hB.cell h.hb).trans h.c0, (hB.cell h.hb).trans h.c2, (hB.cell h.hb).trans h.c3, (hB.cell h.hb).trans h.c4, Nat.lt_of_lt_of_le h.hb hB.size⟩

theorem grown_drewN {W w' : World} (h : Grown W w') (n : Nat) : Grown W (w'.drewN n) := h

def cnt (y : Bool) (p : Int) (k : Nat) : Int := if y = true ∧ p < k then 1 else 0
def fnd (y : Bool) (p : Int) (k : Nat) : Int := if y = true ∧ p < k then p else -1

theorem cnt_bd (y : Bool) (p : Int) (k : Nat) : 0 ≤ cnt y p k ∧ cnt y p k ≤ 1 := by unfold cnt; split <;> omega
theorem hit_true {v : ByteArray} {p : Int} {k : Nat} (hv : isId v = true) (e : p = (k : Int)) : true = (isId v && (p == (k : Int))) := by rw [hv, e]; simp
theorem hit_false {v : ByteArray} {p : Int} {k : Nat} (h : ¬ (isId v = true ∧ p = (k : Int))) : false = (isId v && (p == (k : Int))) := by
  cases hv : isId v with
  | false => rfl
  | true =>
    have : ¬ p = (k : Int) := fun e => h ⟨hv, e⟩
    simp [this]
theorem cnt_hit {y : Bool} {p : Int} {k : Nat} (h : y = true ∧ p = (k : Int)) : cnt y p k + 1 = cnt y p (k + 1) ∧ (k : Int) = fnd y p (k + 1) := by
  obtain ⟨h1, h2⟩ := h
  unfold cnt fnd
  rw [if_neg (by omega), if_pos ⟨h1, by omega⟩, if_pos ⟨h1, by omega⟩]
  exact ⟨rfl, h2.symm⟩
theorem cnt_miss {y : Bool} {p : Int} {k : Nat} (h : ¬ (y = true ∧ p = (k : Int))) : cnt y p k = cnt y p (k + 1) ∧ fnd y p k = fnd y p (k + 1) := by
  unfold cnt fnd
  by_cases h1 : y = true ∧ p < (k : Int)
  · rw [if_pos h1, if_pos h1, if_pos ⟨h1.1, by omega⟩, if_pos ⟨h1.1, by omega⟩]; exact ⟨rfl, rfl⟩
  · have h2 : ¬ (y = true ∧ p < ((k + 1 : Nat) : Int)) := fun ⟨a, b⟩ => by
      have h3 : ¬ p = (k : Int) := fun e => h ⟨a, e⟩
      exact h1 ⟨a, by omega⟩
    rw [if_neg h1, if_neg h1, if_neg h2, if_neg h2]; exact ⟨rfl, rfl⟩

set_option maxRecDepth 100000 in
set_option maxHeartbeats 800000 in
theorem walk (a0 : ByteArray) (a1 : Int) (a2 : Int) (a3 : Int) (w0 : a0.size ≤ maxLen) (w1 : (Lit.int .u32 a1).wf = true) (w2 : (Lit.int .u32 a2).wf = true) (w3 : (Lit.int .u8 a3).wf = true) (w : World) :
    Calls Trym.prog 3 #[.string a0, .int .u32 a1, .int .u32 a2, .int .u8 a3] w fun e w' => e = .returned (.bool true) ∧ Grown w w' := by
  unfold maxLen at w0
  have b3 := bounds_u8 w3
  clear w1 w2 w3
  by_cases h20 : (1048576 : Int) < a0.size
  · go_enter Trym.func3, Trym.ntmps3
    go_wp2
    go_ret
    exact ⟨rfl, Grown.refl _⟩
  go_enter Trym.func3, Trym.ntmps3
  go_wp2
  go_loopw [10, 11, 12] (fun t y i wr => ∃ k : Nat, k ≤ 256 ∧ i = .int .i64 k ∧ t = .int .i64 (cnt (isId a0) a3 k) ∧ y = .int .i64 (fnd (isId a0) a3 k) ∧ Hid (HashAt a0 a1 a2 a3 w.heap.size wr) ∧ Hid (Grown w wr)) (fun _ _ i _ => 256 - (intOf i).toNat)
  case atStart =>
    refine ⟨0, by omega, rfl, ?_, ?_, ?_, (Grown.refl _).alloc _ _⟩
    · unfold cnt; rw [if_neg (by omega)]
    · unfold fnd; rw [if_neg (by omega)]
    · exact ⟨World.cell?_alloc_mark _ _ _ _ _, World.cell?_alloc_mark _ _ _ _ _, World.cell?_alloc_mark _ _ _ _ _, World.cell?_alloc_mark _ _ _ _ _, by simp⟩
  case round =>
    obtain ⟨k, hk, rfl, rfl, rfl, HH, HG⟩ := hrel
    have hcb := cnt_bd (isId a0) a3 k
    by_cases hlt : k < 256
    · by_cases hhit : isId a0 = true ∧ a3 = (k : Int)
      · have HT : Hid (isId a0 = true ∧ a3 = (k : Int)) := hhit
        clear hhit
        go_wp2_with (go_at_call 6; refine (zzMadeAt a0 a1 a2 a3 (k : Int) w.heap.size true _ HH.out (hit_true HT.out.1 HT.out.2)).mono ?_; rintro e w' ⟨rfl, n, rfl⟩)
        go_roundw
        case rel => exact ⟨k + 1, by omega, by go_num, by rw [← (cnt_hit HT.out).1], by rw [← (cnt_hit HT.out).2], HH.out.alloc _ _, grown_drewN (HG.out.alloc _ _) _⟩
        case measure => simp [intOf]; omega
      · have HT : Hid (¬ (isId a0 = true ∧ a3 = (k : Int))) := hhit
        clear hhit
        go_wp2_with (go_at_call 6; refine (zzMadeAt a0 a1 a2 a3 (k : Int) w.heap.size false _ HH.out (hit_false HT.out)).mono ?_; rintro e w' ⟨rfl, n, rfl⟩)
        go_roundw
        case rel => exact ⟨k + 1, by omega, by go_num, by rw [← (cnt_miss HT.out).1], by rw [← (cnt_miss HT.out).2], HH.out.alloc _ _, grown_drewN (HG.out.alloc _ _) _⟩
        case measure => simp [intOf]; omega
    · cases hv : isId a0 with
      | true =>
        have hv' : (a0.toList == [97, 114, 103, 111, 110, 50, 105, 100]) = true := hv
        have e1 : cnt true a3 k = 1 := by unfold cnt; rw [if_pos ⟨rfl, by omega⟩]
        have e2 : fnd true a3 k = a3 := by unfold fnd; rw [if_pos ⟨rfl, by omega⟩]
        go_wp2
        go_ret
        exact ⟨rfl, HG.out⟩
      | false =>
        have hv' : (a0.toList == [97, 114, 103, 111, 110, 50, 105, 100]) = false := hv
        have e1 : cnt false a3 k = 0 := by unfold cnt; rw [if_neg (by simp)]
        go_wp2
        go_ret
        exact ⟨rfl, HG.out⟩

/-! ### THE ROW's STEP: WRITTEN OUT: LEAVE IT -/
set_option maxRecDepth 100000 in
theorem lifted (os : Os) (started : os.Started) (H : Type) (enc : TypeId × Value → H) :
    ReturnsInHanded {} Trym.checked os 3 .any (Rows.fnMadeAtExactlyOneParallelismSpec.pre6 enc Trym.prog Trym.f3 Rows.fnMadeAtExactlyOneParallelismRow.domain false) (Rows.fnMadeAtExactlyOneParallelismSpec.post enc Trym.prog Trym.f3 false true false false) := by
  refine returnsInHanded_of_change (C := Trym.checked) own started (by kernel_rfl) Trym.func3
    (ChangeSpec.witness6 (enc := enc) (C := Trym.checked) false ⟨#[], #[.string ByteArray.empty, .int .u32 0, .int .u32 0, .int .u8 0], []⟩ 8 (by kernel_rfl) (by kernel_rfl) (by kernel_rfl) (by kernel_rfl)) ?_
  intro W base args ds gs before hval0 hW hcnd _
  have hval : ∀ (j : Nat) t v, Trym.f3.params[j]? = some t → args[j]? = some v → Value.okWide Trym.prog W .any base t v := hval0
  have hW' := hW
  obtain ⟨p, q, hA0, hV, rfl, hfz, hnd⟩ := hW
  have hA : DataW.TrodAll enc Trym.prog W 0 (fun _ => true) true Trym.f3.params.toList args.toList ds p := hA0
  rw [Trym.params3] at hA hval
  obtain ⟨v0, vs0, d0, ds0, p0, q0, hargs, rfl, rfl, h0, r0⟩ := trodAll_cons hA
  obtain ⟨v1, vs1, d1, ds1, p1, q1, rfl, rfl, rfl, h1, r1⟩ := trodAll_cons r0
  obtain ⟨v2, vs2, d2, ds2, p2, q2, rfl, rfl, rfl, h2, r2⟩ := trodAll_cons r1
  obtain ⟨v3, vs3, d3, ds3, p3, q3, rfl, rfl, rfl, h3, r3⟩ := trodAll_cons r2
  obtain ⟨rfl, rfl, rfl⟩ := trodAll_nil r3
  obtain rfl : args = #[v0, v1, v2, v3] := by cases args; simp_all
  obtain ⟨rfl, rfl⟩ := trodVars_none hV
  obtain ⟨a0, rfl, rfl, rfl, w0⟩ := open_string Trym.underlying9 (hval 0 9 v0 rfl rfl) h0
  obtain ⟨a1, rfl, rfl, rfl, w1⟩ := open_int Trym.underlying22 (hval 1 22 v1 rfl rfl) h1
  obtain ⟨a2, rfl, rfl, rfl, w2⟩ := open_int Trym.underlying22 (hval 2 22 v2 rfl rfl) h2
  obtain ⟨a3, rfl, rfl, rfl, w3⟩ := open_int Trym.underlying5 (hval 3 5 v3 rfl rfl) h3
  clear hA0 hval0
  simp only [List.append_nil] at hW'
  refine (walk a0 a1 a2 a3 w0 w1 w2 w3 W).mono fun e W' ⟨he, hg⟩ => ?_
  subst he
  exact ⟨_, rfl, post_of_same (pa := []) (pv := []) hW' (fun _ _ _ => (trodAll_cons_mk (shut_bool Trym.underlying4 _) trodAll_mk0)) (fun sp _ => (trodAll_cons_mk (shut_string Trym.underlying9 w0) (trodAll_cons_mk (shut_int Trym.underlying22 w1) (trodAll_cons_mk (shut_int Trym.underlying22 w2) (trodAll_cons_mk (shut_int Trym.underlying5 w3) trodAll_mk0))))) (fun _ _ => rfl) rfl
    (hg.frame _) hg.2.1 (ok_one (by kernel_rfl) rfl (okWide_bool_mk Trym.underlying4 _))⟩

theorem over : Rows.fnMadeAtExactlyOneParallelismRow.holds Trym.pinned (OpenSpec.ofChange Rows.fnMadeAtExactlyOneParallelismSpec) :=
  OpenClaim.holds_of_wide 3 Trym.f3 rfl rfl rfl rfl rfl rfl rfl ⟨rfl, rfl, rfl, rfl, rfl⟩ rfl rfl rfl rfl rfl (by kernel_rfl) Trym.func3 (by kernel_rfl)
    (of_decide_eq_true (by kernel_rfl)) (by unfold Func.isWrapper; first | (rw [if_pos (by decide +kernel)]; kernel_rfl) | (rw [if_neg (by decide +kernel)]; exact ⟨rfl, rfl⟩))
    (fun os started H enc _ => lifted os started H enc)

/-- ████ THE STATEMENT ████ -/
theorem proved : Rows.FnMadeAtExactlyOneParallelismSaid :=
  over
#print axioms proved
end Go.Proofs.Qxb6613221aMods.fnMadeAtExactlyOneParallelism
