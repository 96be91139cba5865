/-
  Proof of 'Rows.FnProfitAndLossRestsOnFirstByteAndSixAloneSaid': for every string s the law returns true and the string reads as before.
  The frame (row's step) is the given shell's own; the walk and its lemmas are typed here.
-/
import Derived.Test.Qxb6612775aModsRows
import Derived.WalkKit
import Derived.ProofKit
import Derived.OpenShut
import Derived.ShutString
import Derived.Laws.BytesArg
import Derived.Deep.RegionWith
namespace Go.Proofs.Qxb6612775aMods.fnProfitAndLossRestsOnFirstByteAndSixAlone
open Go.ChangeShapes Go.WideShapes Go.ChangeAt Go.RowKit
open Go.ChangeMaps (open_string shut_string)
set_option linter.unusedVariables false      -- a walk need not use every 'w<i>' (that an integer argument fits its kind)

theorem own : ownKnob Trym.prog.godebug = none := by kernel_rfl

/-! ### STEP 1: THE WALK. ProfitAndLoss by a contract (pal0, pal); the loop over 256 bytes by go_loopw: at the head of round k the count and the last hit are cnt k and whi k. -/
/-- The first byte of s is the number k. -/
def FirstIs (s : ByteArray) (k : Nat) : Prop := s.data.toList.head? = some (UInt8.ofNat k)

theorem pal0 (s : ByteArray) (hs : 0 < s.size) (w : World) :
    Calls Trym.prog 8 #[.string s] w fun e w' => e = .returned (.bool ((s[0].toNat : Int) == 54)) ∧ w' = w := by
  go_enter Trym.func8, Trym.ntmps8
  go_wp2
  go_ret
  exact ⟨rfl, rfl⟩

theorem first_pos {s : ByteArray} {k : Nat} (h : FirstIs s k) : 0 < s.size := by
  unfold FirstIs at h
  have : s.data.toList ≠ [] := by intro e; rw [e] at h; simp at h
  have h2 : 0 < s.data.toList.length := List.length_pos_iff.2 this
  simpa using h2

theorem first_at {s : ByteArray} {k : Nat} (h : FirstIs s k) (hk : k < 256) (hs : 0 < s.size) : s[0].toNat = k := by
  unfold FirstIs at h
  have e : s.data.toList.head? = some s[0] := by
    rw [List.head?_eq_getElem?, List.getElem?_eq_getElem (by simpa using hs)]
    rfl
  rw [e] at h
  simp only [Option.some.injEq] at h
  rw [h]
  simp; omega

theorem pal (s : ByteArray) (k : Nat) (b : Bool) (h : FirstIs s k) (hk : k < 256) (hb : b = ((k : Int) == 54)) (w : World) :
    Calls Trym.prog 8 #[.string s] w fun e w' => e = .returned (.bool b) ∧ w' = w := by
  refine (pal0 s (first_pos h) w).mono ?_
  rintro e w' ⟨rfl, rfl⟩
  exact ⟨by rw [hb, first_at h hk], rfl⟩

def one (k : Nat) : ByteArray := strOfNums [(k : Int)]
theorem one_size (k : Nat) : (one k).size = 1 := strOfNums_size _
theorem one_first (k : Nat) : FirstIs (one k) k := by simp [FirstIs, one, strOfNums_data]
theorem add_first (k : Nat) (s : ByteArray) : FirstIs (one k ++ s) k := by simp [FirstIs, one, strOfNums_data]
theorem one_conv (k : Nat) (w : World) : (convert 24 9 (.slice (some ⟨w.heap.size, 0, none⟩) 1 1)).run Trym.prog (w.alloc (.cells #[.int .u8 (k : Int)] 5)) = .ok (.string (one k)) (w.alloc (.cells #[.int .u8 (k : Int)] 5)) := by
  refine run_convert_bytes_arg _ 24 5 Trym.underlying24 Trym.underlying5 w.heap.size 0 1 1 [(k : Int)] rfl (fun i hi => ?_) 9 Trym.underlying9
  obtain rfl : i = 0 := by omega
  rw [World.cell?_alloc_mark]
  rfl

def cnt (k : Nat) : Int := if k ≤ 54 then 0 else 1
def whi (k : Nat) : Int := if k ≤ 54 then -1 else 54

theorem cnt_bd (k : Nat) : 0 ≤ cnt k ∧ cnt k ≤ 1 := by unfold cnt; split <;> omega
theorem cnt_six {k : Nat} (h : k = 54) : cnt k + 1 = cnt (k + 1) ∧ (k : Int) = whi (k + 1) := by subst h; exact ⟨rfl, rfl⟩
theorem cnt_not {k : Nat} (h : ¬ k = 54) : cnt k = cnt (k + 1) ∧ whi k = whi (k + 1) := by
  unfold cnt whi
  by_cases h1 : k ≤ 54
  · rw [if_pos h1, if_pos (by omega), if_pos h1, if_pos (by omega)]; exact ⟨rfl, rfl⟩
  · rw [if_neg h1, if_neg (by omega), if_neg h1, if_neg (by omega)]; exact ⟨rfl, rfl⟩
theorem six_not {k : Nat} (h : ¬ k = 54) : false = ((k : Int) == 54) := by
  symm; simp; omega

set_option maxRecDepth 100000 in
set_option maxHeartbeats 400000 in
theorem walk (a0 : ByteArray) (w0 : a0.size ≤ maxLen) (w : World) :
    Calls Trym.prog 4 #[.string a0] w fun e w' => e = .returned (.bool true) ∧ Grown w w' := by
  unfold maxLen at w0
  by_cases h20 : (1048576 : Int) < a0.size
  · go_enter Trym.func4, Trym.ntmps4
    go_wp2
    go_ret
    exact ⟨rfl, Grown.refl _⟩
  by_cases h16 : (65536 : Int) < a0.size
  · go_enter Trym.func4, Trym.ntmps4
    go_wp2
    go_ret
    exact ⟨rfl, Grown.refl _⟩
  go_enter Trym.func4, Trym.ntmps4
  go_wp2
  go_loopw [3, 4, 5] (fun t y i wr => ∃ k : Nat, k ≤ 256 ∧ i = .int .i64 k ∧ t = .int .i64 (cnt k) ∧ y = .int .i64 (whi k) ∧ Grown w wr) (fun _ _ i _ => 256 - (intOf i).toNat)
  case atStart => exact ⟨0, by omega, rfl, rfl, rfl, Grown.refl _⟩
  case round =>
    obtain ⟨k, hk, rfl, rfl, rfl, hg⟩ := hrel
    have HG : Hid (Grown w wr) := hg
    clear hg
    have hcb := cnt_bd k
    by_cases hlt : k < 256
    · have hcv := one_conv k wr
      have hs1 := one_size k
      by_cases h6 : k = 54
      · have H6 : Hid (k = 54) := h6
        clear h6
        go_wp2_with (first | (go_at_call_of 8 (Value.string (one k ++ a0)); refine (pal _ k true (add_first k a0) hlt (by rw [H6.out]; rfl) _).mono ?_; rintro e w' ⟨rfl, rfl⟩) | (go_at_call_of 8 (Value.string (one k)); refine (pal _ k true (one_first k) hlt (by rw [H6.out]; rfl) _).mono ?_; rintro e w' ⟨rfl, rfl⟩))
        go_roundw
        case rel => exact ⟨k + 1, by omega, by go_num, by rw [← (cnt_six H6.out).1], by rw [← (cnt_six H6.out).2], HG.out.alloc _ _⟩
        case measure => simp [intOf]; omega
      · have H6 : Hid (¬ k = 54) := h6
        clear h6
        go_wp2_with (first | (go_at_call_of 8 (Value.string (one k ++ a0)); refine (pal _ k false (add_first k a0) hlt (six_not H6.out) _).mono ?_; rintro e w' ⟨rfl, rfl⟩) | (go_at_call_of 8 (Value.string (one k)); refine (pal _ k false (one_first k) hlt (six_not H6.out) _).mono ?_; rintro e w' ⟨rfl, rfl⟩))
        go_roundw
        case rel => exact ⟨k + 1, by omega, by go_num, by rw [← (cnt_not H6.out).1], by rw [← (cnt_not H6.out).2], HG.out.alloc _ _⟩
        case measure => simp [intOf]; omega
    · have e1 : cnt k = 1 := by unfold cnt; rw [if_neg (by omega)]
      have e2 : whi k = 54 := by unfold whi; rw [if_neg (by omega)]
      go_wp2
      go_ret
      exact ⟨rfl, HG.out⟩

/-! ### THE ROW's STEP: WRITTEN OUT: LEAVE IT -/
set_option maxRecDepth 100000 in
theorem lifted (os : Os) (started : os.Started) (H : Type) (enc : TypeId × Value → H) :
    ReturnsInHanded {} Trym.checked os 4 .any (Rows.fnProfitAndLossRestsOnFirstByteAndSixAloneSpec.pre6 enc Trym.prog Trym.f4 Rows.fnProfitAndLossRestsOnFirstByteAndSixAloneRow.domain false) (Rows.fnProfitAndLossRestsOnFirstByteAndSixAloneSpec.post enc Trym.prog Trym.f4 false true false false) := by
  refine returnsInHanded_of_change (C := Trym.checked) own started (by kernel_rfl) Trym.func4
    (ChangeSpec.witness6 (enc := enc) (C := Trym.checked) false ⟨#[], #[.string ByteArray.empty], []⟩ 8 (by kernel_rfl) (by kernel_rfl) (by kernel_rfl) (by kernel_rfl)) ?_
  intro W base args ds gs before hval0 hW hcnd _
  have hval : ∀ (j : Nat) t v, Trym.f4.params[j]? = some t → args[j]? = some v → Value.okWide Trym.prog W .any base t v := hval0
  have hW' := hW
  obtain ⟨p, q, hA0, hV, rfl, hfz, hnd⟩ := hW
  have hA : DataW.TrodAll enc Trym.prog W 0 (fun _ => true) true Trym.f4.params.toList args.toList ds p := hA0
  rw [Trym.params4] at hA hval
  obtain ⟨v0, vs0, d0, ds0, p0, q0, hargs, rfl, rfl, h0, r0⟩ := trodAll_cons hA
  obtain ⟨rfl, rfl, rfl⟩ := trodAll_nil r0
  obtain rfl : args = #[v0] := by cases args; simp_all
  obtain ⟨rfl, rfl⟩ := trodVars_none hV
  obtain ⟨a0, rfl, rfl, rfl, w0⟩ := open_string Trym.underlying9 (hval 0 9 v0 rfl rfl) h0
  clear hA0 hval0
  simp only [List.append_nil] at hW'
  refine (walk a0 w0 W).mono fun e W' ⟨he, hg⟩ => ?_
  subst he
  exact ⟨_, rfl, post_of_same (pa := []) (pv := []) hW' (fun _ _ _ => (trodAll_cons_mk (shut_bool Trym.underlying4 _) trodAll_mk0)) (fun sp _ => (trodAll_cons_mk (shut_string Trym.underlying9 w0) trodAll_mk0)) (fun _ _ => rfl) rfl
    (hg.frame _) hg.2.1 (ok_one (by kernel_rfl) rfl (okWide_bool_mk Trym.underlying4 _))⟩

theorem over : Rows.fnProfitAndLossRestsOnFirstByteAndSixAloneRow.holds Trym.pinned (OpenSpec.ofChange Rows.fnProfitAndLossRestsOnFirstByteAndSixAloneSpec) :=
  OpenClaim.holds_of_wide 4 Trym.f4 rfl rfl rfl rfl rfl rfl rfl ⟨rfl, rfl, rfl, rfl, rfl⟩ rfl rfl rfl rfl rfl (by kernel_rfl) Trym.func4 (by kernel_rfl)
    (of_decide_eq_true (by kernel_rfl)) (by unfold Func.isWrapper; first | (rw [if_pos (by decide +kernel)]; kernel_rfl) | (rw [if_neg (by decide +kernel)]; exact ⟨rfl, rfl⟩))
    (fun os started H enc _ => lifted os started H enc)

/-- ████ THE STATEMENT ████ -/
theorem proved : Rows.FnProfitAndLossRestsOnFirstByteAndSixAloneSaid :=
  over
#print axioms proved
end Go.Proofs.Qxb6612775aMods.fnProfitAndLossRestsOnFirstByteAndSixAlone
