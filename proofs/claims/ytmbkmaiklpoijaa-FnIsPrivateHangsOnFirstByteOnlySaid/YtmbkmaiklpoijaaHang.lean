/-
  For all strings s and t, FnIsPrivateHangsOnFirstByteOnly(s, t) returns true and both read afterwards as before. No condition.
-/
import Derived.Test.YtmbkmaiklpoijaaRows
import Derived.WalkKit
import Derived.ProofKit
import Derived.OpenShut
import Derived.ShutString
import Derived.PlainAid
import Derived.Lib.Hide
namespace Go.Proofs.Ytmbkmaiklpoijaa.fnIsPrivateHangsOnFirstByteOnly
open Go.ChangeShapes Go.WideShapes Go.ChangeAt Go.RowKit Go.PlainAid
open Go.ChangeMaps (open_string shut_string)
set_option linter.unusedVariables false

theorem own : ownKnob Try.prog.godebug = none := by kernel_rfl

/- Is the name private: empty, or its first byte outside 65 .. 90. -/
def pv (s : ByteArray) : Bool := decide (s.size = 0) || (decide (bt s 0 < 65) || decide (90 < bt s 0))

/- isPrivate gives pv, and leaves the world alone. -/
theorem priv (s : ByteArray) (w : World) (hs : s.size ≤ 4611686018427387904) : Calls Try.prog 10 #[.string s] w fun e w' => e = .returned (.bool (pv s)) ∧ w = w' := by
  have hb := get_bt s
  by_cases h3 : s.size = 0
  · have h4 : ((s.size : Int) == 0) = true := by simp [h3]
    have h5 : pv s = true := by simp [pv, h3]
    rw [h5]
    clear h3 h5
    go_enter Try.func10, Try.ntmps10
    go_wp2
    go_ret
    exact ⟨rfl, rfl⟩
  · have h4 : ((s.size : Int) == 0) = false := by simp [h3]
    have h5 : (0 : Int) < (s.size : Int) := by omega
    by_cases h6 : bt s 0 < 65
    · have E := Lib.hid (show true = pv s by simp [pv, h3, h6])
      go_enter Try.func10, Try.ntmps10
      go_wp2
      go_ret
      exact ⟨congrArg (fun b => Ending.returned (.bool b)) E.out, rfl⟩
    · have E := Lib.hid (show decide (90 < bt s 0) = pv s by simp [pv, h3, h6])
      go_enter Try.func10, Try.ntmps10
      go_wp2
      go_ret
      exact ⟨congrArg (fun b => Ending.returned (.bool b)) E.out, rfl⟩

/- The law's own test on lengths: both lengths and their sum at most 1048576. -/
theorem small (s t : ByteArray) (w : World) (h1 : ¬ (1048576 : Int) < (s.size : Int)) (h2 : ¬ (1048576 : Int) < (t.size : Int)) (h3 : ¬ (1048576 : Int) < (s.size : Int) + (t.size : Int)) : Calls Try.prog 9 #[.string s, .string t] w fun e w' => e = .returned (.bool true) ∧ w = w' := by
  go_enter Try.func9, Try.ntmps9
  go_wp2
  go_ret
  exact ⟨rfl, rfl⟩

theorem pv_one (s : ByteArray) (h : s.size ≠ 0) : pv (s.extract 0 1) = pv s := by
  have h1 : (s.extract 0 1).size ≠ 0 := by rw [ByteArray.size_extract]; omega
  have h2 : bt (s.extract 0 1) 0 = bt s 0 := by
    unfold bt
    rw [dif_pos (by omega), dif_pos (by omega)]
    simp [ByteArray.getElem_extract]
  unfold pv
  rw [h2, decide_eq_false h1, decide_eq_false h]
theorem pv_append (s t : ByteArray) (h : s.size ≠ 0) : pv (s ++ t) = pv s := by
  have h1 : (s ++ t).size ≠ 0 := by rw [ByteArray.size_append]; omega
  have h2 : bt (s ++ t) 0 = bt s 0 := by
    unfold bt
    rw [dif_pos (by omega), dif_pos (by omega), ByteArray.getElem_append_left (by omega)]
  unfold pv
  rw [h2, decide_eq_false h1, decide_eq_false h]

theorem walk (a0 : ByteArray) (a1 : ByteArray) (w0 : a0.size ≤ maxLen) (w1 : a1.size ≤ maxLen) (w : World) :
    Calls Try.prog 4 #[.string a0, .string a1] w fun e w' => e = .returned (.bool true) ∧ Grown w w' := by
  by_cases h1 : (1048576 : Int) < (a0.size : Int)
  · go_enter Try.func4, Try.ntmps4
    go_wp2
    go_ret
    exact ⟨rfl, Grown.refl _⟩
  by_cases h2 : (1048576 : Int) < (a1.size : Int)
  · go_enter Try.func4, Try.ntmps4
    go_wp2
    go_ret
    exact ⟨rfl, Grown.refl _⟩
  by_cases h3 : (1048576 : Int) < (a0.size : Int) + (a1.size : Int)
  · go_enter Try.func4, Try.ntmps4
    go_wp2
    go_ret
    exact ⟨rfl, Grown.refl _⟩
  by_cases h4 : (65536 : Int) < (a0.size : Int)
  · go_enter Try.func4, Try.ntmps4
    go_wp2
    go_ret
    exact ⟨rfl, Grown.refl _⟩
  by_cases h5 : (65536 : Int) < (a1.size : Int)
  · go_enter Try.func4, Try.ntmps4
    go_wp2
    go_ret
    exact ⟨rfl, Grown.refl _⟩
  by_cases h6 : a0.size = 0
  · have h7 : ((a0.size : Int) == 0) = true := by simp [h6]
    have e : pv a0 = true := by simp [pv, h6]
    have E := Lib.hid e
    clear h6 e
    go_enter Try.func4, Try.ntmps4
    go_wp2_with (first | (go_at_call 9; refine (small _ _ _ h1 h2 h3).mono ?_; rintro e w' ⟨rfl, rfl⟩) | (go_at_call 10; refine (priv _ _ (by omega)).mono ?_; rintro e w' ⟨rfl, rfl⟩))
    go_ret
    exact ⟨congrArg (fun b => Ending.returned (.bool b)) E.out, Grown.refl _⟩
  · have h7 : ((a0.size : Int) == 0) = false := by simp [h6]
    have E1 := Lib.hid (pv_one a0 h6)
    have E2 := Lib.hid (pv_append a0 a1 h6)
    go_enter Try.func4, Try.ntmps4
    go_wp2_with (first | (go_at_call 9; refine (small _ _ _ h1 h2 h3).mono ?_; rintro e w' ⟨rfl, rfl⟩) | (go_at_call 10; refine (priv _ _ ?_).mono ?_; rotate_left; rintro e w' ⟨rfl, rfl⟩))
    · go_ret
      exact ⟨congrArg (fun b => Ending.returned (.bool b)) (by rw [E2.out]; simp), Grown.refl _⟩
    · rw [ByteArray.size_append]; omega
    · rw [ByteArray.size_extract]; omega
    · omega

/- The row: opened and shut again. -/
set_option maxRecDepth 100000 in
theorem lifted (os : Os) (started : os.Started) (H : Type) (enc : TypeId × Value → H) :
    ReturnsInHanded {} Try.checked os 4 .any (Rows.fnIsPrivateHangsOnFirstByteOnlySpec.pre6 enc Try.prog Try.f4 Rows.fnIsPrivateHangsOnFirstByteOnlyRow.domain false) (Rows.fnIsPrivateHangsOnFirstByteOnlySpec.post enc Try.prog Try.f4 false true false false) := by
  refine returnsInHanded_of_change (C := Try.checked) own started (by kernel_rfl) Try.func4
    (ChangeSpec.witness6 (enc := enc) (C := Try.checked) false ⟨#[], #[.string ByteArray.empty, .string ByteArray.empty], []⟩ 8 (by kernel_rfl) (by kernel_rfl) (by kernel_rfl) (by kernel_rfl)) ?_
  intro W base args ds gs before hval0 hW hcnd _
  have hval : ∀ (j : Nat) t v, Try.f4.params[j]? = some t → args[j]? = some v → Value.okWide Try.prog W .any base t v := hval0
  have hW' := hW
  obtain ⟨p, q, hA0, hV, rfl, hfz, hnd⟩ := hW
  have hA : DataW.TrodAll enc Try.prog W 0 (fun _ => true) true Try.f4.params.toList args.toList ds p := hA0
  rw [Try.params4] at hA hval
  obtain ⟨v0, vs0, d0, ds0, p0, q0, hargs, rfl, rfl, h0, r0⟩ := trodAll_cons hA
  obtain ⟨v1, vs1, d1, ds1, p1, q1, rfl, rfl, rfl, h1, r1⟩ := trodAll_cons r0
  obtain ⟨rfl, rfl, rfl⟩ := trodAll_nil r1
  obtain rfl : args = #[v0, v1] := by cases args; simp_all
  obtain ⟨rfl, rfl⟩ := trodVars_none hV
  obtain ⟨a0, rfl, rfl, rfl, w0⟩ := open_string Try.underlying9 (hval 0 9 v0 rfl rfl) h0
  obtain ⟨a1, rfl, rfl, rfl, w1⟩ := open_string Try.underlying9 (hval 1 9 v1 rfl rfl) h1
  clear hA0 hval0
  simp only [List.append_nil] at hW'
  refine (walk a0 a1 w0 w1 W).mono fun e W' ⟨he, hg⟩ => ?_
  subst he
  exact ⟨_, rfl, post_of_same (pa := []) (pv := []) hW' (fun _ _ _ => (trodAll_cons_mk (shut_bool Try.underlying4 _) trodAll_mk0)) (fun sp _ => (trodAll_cons_mk (shut_string Try.underlying9 w0) (trodAll_cons_mk (shut_string Try.underlying9 w1) trodAll_mk0))) (fun _ _ => rfl) rfl
    (hg.frame _) hg.2.1 (ok_one (by kernel_rfl) rfl (okWide_bool_mk Try.underlying4 _))⟩

theorem over : Rows.fnIsPrivateHangsOnFirstByteOnlyRow.holds Try.pinned (OpenSpec.ofChange Rows.fnIsPrivateHangsOnFirstByteOnlySpec) :=
  OpenClaim.holds_of_wide 4 Try.f4 rfl rfl rfl rfl rfl rfl rfl ⟨rfl, rfl, rfl, rfl, rfl⟩ rfl rfl rfl rfl rfl (by kernel_rfl) Try.func4 (by kernel_rfl)
    (of_decide_eq_true (by kernel_rfl)) (by unfold Func.isWrapper; first | (rw [if_pos (by decide +kernel)]; kernel_rfl) | (rw [if_neg (by decide +kernel)]; exact ⟨rfl, rfl⟩))
    (fun os started H enc _ => lifted os started H enc)

/- The given statement. -/
theorem proved : Rows.FnIsPrivateHangsOnFirstByteOnlySaid :=
  over
#print axioms proved
end Go.Proofs.Ytmbkmaiklpoijaa.fnIsPrivateHangsOnFirstByteOnly
