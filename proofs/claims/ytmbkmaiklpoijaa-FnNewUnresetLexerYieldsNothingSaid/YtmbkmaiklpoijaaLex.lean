/-
  FnNewUnresetLexerYieldsNothing() returns true and changes nothing that was there. No condition.
-/
import Derived.Test.YtmbkmaiklpoijaaRows
import Derived.WalkKit
import Derived.ProofKit
import Derived.OpenShut
import Derived.ShutString
import Derived.Handy
namespace Go.Proofs.Ytmbkmaiklpoijaa.fnNewUnresetLexerYieldsNothing
open Go.ChangeShapes Go.WideShapes Go.ChangeAt Go.RowKit
open Go.ChangeMaps (open_string shut_string)
set_option linter.unusedVariables false

theorem own : ownKnob Try.prog.godebug = none := by kernel_rfl

/- A block that holds the zero Token. -/
def tok : Obj := .cells #[.int .i64 0, .int .i64 0, .string ⟨#[]⟩, .string ⟨#[]⟩] 28
/- Dequeue of an empty ring gives the zero Token and false; it makes one block. -/
theorem dequeue (b : Nat) (w : World) (hb : b < w.heap.size) (hc : w.cell? ⟨b, 2, none⟩ = some (.int .i64 0)) :
    Calls Try.prog 15 #[.pointer (some ⟨b, 0, none⟩)] w fun e w' => e = .returned (.tuple #[.agg #[.int .i64 0, .int .i64 0, .string ⟨#[]⟩, .string ⟨#[]⟩], .bool false]) ∧ w' = w.alloc tok := by
  go_enter Try.func15, Try.ntmps15
  go_wp2
  go_returns
  exact ⟨rfl, rfl⟩
/- zzIsZero of the zero Token is true. -/
theorem isZero (w : World) :
    Calls Try.prog 8 #[.agg #[.int .i64 0, .int .i64 0, .string ⟨#[]⟩, .string ⟨#[]⟩]] w fun e w' => e = .returned (.bool true) ∧ w' = w.alloc tok := by
  go_enter Try.func8, Try.ntmps8
  go_wp2
  go_ret
  exact ⟨rfl, rfl⟩
/- The two blocks that New makes. -/
def ringObj : Obj := .cells #[.slice none 0 0, .int .i64 0, .int .i64 0, .int .i64 10] 54
def lexObj (r : Nat) : Obj := .cells #[.nilFunc, .string ⟨#[]⟩, .pointer (some ⟨r, 0, none⟩), .pointer none, .int .i64 0, .int .i64 0, .int .i64 0, .int .i64 0, .bool false, .bool false] 46
theorem madeLexer (w : World) :
    Calls Try.prog 6 #[] w fun e w' => e = .returned (.pointer (some ⟨w.heap.size + 1, 0, none⟩)) ∧ w' = ((w.alloc ringObj).alloc (lexObj w.heap.size)) := by
  go_enter Try.func6, Try.ntmps6
  go_wp2
  go_ret
  exact ⟨rfl, rfl⟩
/- The nil state of a lexer that was never reset is nil. -/
theorem nilState (w : World) : (binOp .neq 40 .nilFunc .nilFunc).run Try.prog w = .ok (.bool false) w := by kernel_rfl
/- Next of a lexer without a state, without an error and with an empty ring gives the zero Token and EndOfText. -/
theorem emptyNext (b r : Nat) (w : World) (hb : b < w.heap.size) (hr : r < w.heap.size) (h0 : w.cell? ⟨b, 0, none⟩ = some .nilFunc) (h2 : w.cell? ⟨b, 2, none⟩ = some (.pointer (some ⟨r, 0, none⟩)))
    (h3 : w.cell? ⟨b, 3, none⟩ = some (.pointer none)) (hc : w.cell? ⟨r, 2, none⟩ = some (.int .i64 0)) :
    Calls Try.prog 7 #[.pointer (some ⟨b, 0, none⟩)] w fun e w' => e = .returned (.tuple #[.agg #[.int .i64 0, .int .i64 0, .string ⟨#[]⟩, .string ⟨#[]⟩], .iface 51 (.string ⟨#[69, 79, 70]⟩)]) ∧ w' = ((w.alloc tok).alloc tok).alloc tok := by
  have hn : ∀ w : World, (binOp .neq 40 .nilFunc .nilFunc).run Try.prog w = .ok (.bool false) w := fun w => nilState w
  go_enter Try.func7, Try.ntmps7
  go_wp2
  refine wp_loop_rounds 1 ?_
  rw [rounds_succ]
  go_wp2_with fail
  refine (dequeue r _ (by simp; omega) (by go_cell)).mono ?_
  rintro e w1 ⟨rfl, rfl⟩
  unfold tok
  go_wp2
  go_returns
  exact ⟨rfl, rfl⟩
/- EndOfText is not nil. -/
theorem errNil (w : World) : (binOp .eql 30 (.iface 51 (.string ⟨#[69, 79, 70]⟩)) .nilIface).run Try.prog w = .ok (.bool false) w := by kernel_rfl
theorem walk  (w : World) :
    Calls Try.prog 3 #[] w fun e w' => e = .returned (.bool true) ∧ Grown w w' := by
  have he := errNil
  go_enter Try.func3, Try.ntmps3
  go_wp2_with (go_at_call 6; refine (madeLexer _).mono ?_; rintro e w' ⟨rfl, rfl⟩; unfold ringObj lexObj)
  refine wp_loop_rounds 4 ?_
  rw [rounds_succ]
  go_wp2_with fail
  refine (emptyNext (w.heap.size + 1) w.heap.size _ (by simp) (by simp; omega) (by go_cell) (by go_cell) (by go_cell) (by go_cell)).mono ?_
  rintro e w' ⟨rfl, rfl⟩
  unfold tok
  go_wp2_with fail
  refine (isZero _).mono ?_
  rintro e w' ⟨rfl, rfl⟩
  unfold tok
  go_wp2_with fail
  rw [rounds_succ]
  go_wp2_with fail
  refine (emptyNext (w.heap.size + 1) w.heap.size _ (by simp) (by simp; omega) (by go_cell) (by go_cell) (by go_cell) (by go_cell)).mono ?_
  rintro e w' ⟨rfl, rfl⟩
  unfold tok
  go_wp2_with fail
  refine (isZero _).mono ?_
  rintro e w' ⟨rfl, rfl⟩
  unfold tok
  go_wp2_with fail
  rw [rounds_succ]
  go_wp2_with fail
  refine (emptyNext (w.heap.size + 1) w.heap.size _ (by simp) (by simp; omega) (by go_cell) (by go_cell) (by go_cell) (by go_cell)).mono ?_
  rintro e w' ⟨rfl, rfl⟩
  unfold tok
  go_wp2_with fail
  refine (isZero _).mono ?_
  rintro e w' ⟨rfl, rfl⟩
  unfold tok
  go_wp2_with fail
  rw [rounds_succ]
  go_wp2_with fail
  go_ret
  exact ⟨rfl, by go_grown⟩

/- The row: opened and shut again. -/
set_option maxRecDepth 100000 in
theorem lifted (os : Os) (started : os.Started) (H : Type) (enc : TypeId × Value → H) :
    ReturnsInHanded {} Try.checked os 3 .any (Rows.fnNewUnresetLexerYieldsNothingSpec.pre6 enc Try.prog Try.f3 Rows.fnNewUnresetLexerYieldsNothingRow.domain false) (Rows.fnNewUnresetLexerYieldsNothingSpec.post enc Try.prog Try.f3 false true false false) := by
  refine returnsInHanded_of_change (C := Try.checked) own started (by kernel_rfl) Try.func3
    (ChangeSpec.witness6 (enc := enc) (C := Try.checked) false ⟨#[], #[], []⟩ 8 (by kernel_rfl) (by kernel_rfl) (by kernel_rfl) (by kernel_rfl)) ?_
  intro W base args ds gs before hval0 hW hcnd _
  have hval : ∀ (j : Nat) t v, Try.f3.params[j]? = some t → args[j]? = some v → Value.okWide Try.prog W .any base t v := hval0
  have hW' := hW
  obtain ⟨p, q, hA0, hV, rfl, hfz, hnd⟩ := hW
  have hA : DataW.TrodAll enc Try.prog W 0 (fun _ => true) true Try.f3.params.toList args.toList ds p := hA0
  rw [Try.params3] at hA hval
  obtain ⟨rfl, rfl, rfl⟩ := trodAll_none hA
  obtain ⟨rfl, rfl⟩ := trodVars_none hV
  clear hA0 hval0
  simp only [List.append_nil] at hW'
  refine (walk  W).mono fun e W' ⟨he, hg⟩ => ?_
  subst he
  exact ⟨_, rfl, post_of_same (pa := []) (pv := []) hW' (fun _ _ _ => (trodAll_cons_mk (shut_bool Try.underlying4 _) trodAll_mk0)) (fun sp _ => rfl) (fun _ _ => rfl) rfl
    (hg.frame _) hg.2.1 (ok_one (by kernel_rfl) rfl (okWide_bool_mk Try.underlying4 _))⟩

theorem over : Rows.fnNewUnresetLexerYieldsNothingRow.holds Try.pinned (OpenSpec.ofChange Rows.fnNewUnresetLexerYieldsNothingSpec) :=
  OpenClaim.holds_of_wide 3 Try.f3 rfl rfl rfl rfl rfl rfl rfl ⟨rfl, rfl, rfl, rfl, rfl⟩ rfl rfl rfl rfl rfl (by kernel_rfl) Try.func3 (by kernel_rfl)
    (of_decide_eq_true (by kernel_rfl)) (by unfold Func.isWrapper; first | (rw [if_pos (by decide +kernel)]; kernel_rfl) | (rw [if_neg (by decide +kernel)]; exact ⟨rfl, rfl⟩))
    (fun os started H enc _ => lifted os started H enc)

/- The given statement. -/
theorem proved : Rows.FnNewUnresetLexerYieldsNothingSaid :=
  over
#print axioms proved
end Go.Proofs.Ytmbkmaiklpoijaa.fnNewUnresetLexerYieldsNothing
