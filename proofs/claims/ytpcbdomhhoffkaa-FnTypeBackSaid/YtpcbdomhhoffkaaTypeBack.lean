/- Proved: laws.FnTypeBack returns true for all numbers: method and class come back from a type (methods of 12 bits, classes of two), a type of 14 bits comes back from its method and class, and the type of 1 and 1 is not 0; no other condition. -/
import Derived.Test.YtpcbdomhhoffkaaRows
import Derived.WalkKit
import Derived.ProofKit
import Derived.OpenShut
import Derived.Handy
import Derived.Test.YtpcbdomhhoffkaaTypes
namespace Go.Proofs.Ytpcbdomhhoffkaa.fnTypeBack
open Go.ChangeShapes Go.WideShapes Go.ChangeAt Go.RowKit
set_option linter.unusedVariables false      -- a walk need not use every 'w<i>' (that an integer argument fits its kind)

theorem own : ownKnob Try.prog.godebug = none := by kernel_rfl

theorem typ_lo (m c : Int) (h0 : 0 ≤ m) (h1 : m ≤ 4095) (h2 : 0 ≤ c) (h3 : c ≤ 3) : 0 ≤ Types.typ m c := by unfold Types.typ; omega
theorem typ_hi (m c : Int) (h0 : 0 ≤ m) (h1 : m ≤ 4095) (h2 : 0 ≤ c) (h3 : c ≤ 3) : Types.typ m c ≤ 16383 := by unfold Types.typ; omega
theorem mth_lo (v : Int) (h0 : 0 ≤ v) : 0 ≤ Types.mth v := by unfold Types.mth; omega
theorem mth_hi (v : Int) (h0 : 0 ≤ v) : Types.mth v ≤ 4095 := by unfold Types.mth; omega
theorem cls_lo (v : Int) (h0 : 0 ≤ v) : 0 ≤ Types.cls v := by unfold Types.cls; omega
theorem cls_hi (v : Int) (h0 : 0 ≤ v) : Types.cls v ≤ 3 := by unfold Types.cls; omega
def there (n : Nat) : Bool := Nat.beq (TypeNum.mth (TypeNum.typ (n / 4) (n % 4))) (n / 4) && (Nat.beq (TypeNum.cls (TypeNum.typ (n / 4) (n % 4))) (n % 4) && Nat.beq (TypeNum.typ (TypeNum.mth n) (TypeNum.cls n)) n)
theorem there_all : TypeNum.below there 16384 = true := by decide +kernel
theorem there_at (n : Nat) (h : n < 16384) : TypeNum.mth (TypeNum.typ (n / 4) (n % 4)) = n / 4 ∧ TypeNum.cls (TypeNum.typ (n / 4) (n % 4)) = n % 4 ∧ TypeNum.typ (TypeNum.mth n) (TypeNum.cls n) = n := by
  have h := TypeNum.below_at there 16384 there_all n h
  simp only [there, Bool.and_eq_true] at h
  exact ⟨Nat.eq_of_beq_eq_true h.1, Nat.eq_of_beq_eq_true h.2.1, Nat.eq_of_beq_eq_true h.2.2⟩
theorem there_of (m c : Nat) (h : m < 4096) (g : c < 4) : TypeNum.mth (TypeNum.typ m c) = m ∧ TypeNum.cls (TypeNum.typ m c) = c := by
  have h := there_at (4 * m + c) (by omega)
  rw [show (4 * m + c) / 4 = m by omega, show (4 * m + c) % 4 = c by omega] at h
  exact ⟨h.1, h.2.1⟩
theorem mth_typ (m c : Int) (h0 : 0 ≤ m) (h1 : m ≤ 4095) (h2 : 0 ≤ c) (h3 : c ≤ 3) : Types.mth (Types.typ m c) = m := by
  obtain ⟨n, rfl⟩ := Int.eq_ofNat_of_zero_le h0
  obtain ⟨k, rfl⟩ := Int.eq_ofNat_of_zero_le h2
  exact congrArg Int.ofNat (there_of n k (by omega) (by omega)).1
theorem cls_typ (m c : Int) (h0 : 0 ≤ m) (h1 : m ≤ 4095) (h2 : 0 ≤ c) (h3 : c ≤ 3) : Types.cls (Types.typ m c) = c := by
  obtain ⟨n, rfl⟩ := Int.eq_ofNat_of_zero_le h0
  obtain ⟨k, rfl⟩ := Int.eq_ofNat_of_zero_le h2
  exact congrArg Int.ofNat (there_of n k (by omega) (by omega)).2
theorem typ_back (v : Int) (h0 : 0 ≤ v) (h1 : v ≤ 16383) : Types.typ (Types.mth v) (Types.cls v) = v := by
  obtain ⟨n, rfl⟩ := Int.eq_ofNat_of_zero_le h0
  exact congrArg Int.ofNat (there_at n (by omega)).2.2
theorem grown_trans {a b c : World} (h1 : Grown a b) (h2 : Grown b c) : Grown a c :=
  ⟨World.keptBut_trans h1.1 h2.1, fun x => (h2.2.1 x).trans (h1.2.1 x), Nat.le_trans h1.2.2 h2.2.2⟩

/-! ### STEP 1: THE WALK: the Go text returns true. 'Grown w w'': the world has at most new blocks (Derived/RowKit3.lean). Part the cases AHEAD of 'go_enter' where a test parts the walk; take each callee by a contract of your own. -/
theorem walk (a0 : Int) (a1 : Int) (a2 : Int) (w0 : (Lit.int .i64 a0).wf = true) (w1 : (Lit.int .i64 a1).wf = true) (w2 : (Lit.int .i64 a2).wf = true) (w : World) :
    Calls Try.prog 5 #[.int .i64 a0, .int .i64 a1, .int .i64 a2] w fun e w' => e = .returned (.bool true) ∧ Grown w w' := by
  by_cases c1 : a0 < 0
  · go_enter Try.func5, Try.ntmps5
    go_wp2
    go_ret
    exact ⟨rfl, Grown.refl _⟩
  by_cases c2 : 4095 < a0
  · go_enter Try.func5, Try.ntmps5
    go_wp2
    go_ret
    exact ⟨rfl, Grown.refl _⟩
  by_cases c3 : a1 < 0
  · go_enter Try.func5, Try.ntmps5
    go_wp2
    go_ret
    exact ⟨rfl, Grown.refl _⟩
  by_cases c4 : 3 < a1
  · go_enter Try.func5, Try.ntmps5
    go_wp2
    go_ret
    exact ⟨rfl, Grown.refl _⟩
  by_cases c5 : a2 < 0
  · go_enter Try.func5, Try.ntmps5
    go_wp2
    go_ret
    exact ⟨rfl, Grown.refl _⟩
  by_cases c6 : 16383 < a2
  · go_enter Try.func5, Try.ntmps5
    go_wp2
    go_ret
    exact ⟨rfl, Grown.refl _⟩
  have t1 := typ_lo a0 a1 (by omega) (by omega) (by omega) (by omega)
  have t2 := typ_hi a0 a1 (by omega) (by omega) (by omega) (by omega)
  have t3 := mth_lo a2 (by omega)
  have t4 := mth_hi a2 (by omega)
  have t5 := cls_lo a2 (by omega)
  have t6 := cls_hi a2 (by omega)
  have k1 : (Types.mth (Types.typ a0 a1) == a0) = true := beq_iff_eq.2 (mth_typ a0 a1 (by omega) (by omega) (by omega) (by omega))
  have k2 : (Types.cls (Types.typ a0 a1) == a1) = true := beq_iff_eq.2 (cls_typ a0 a1 (by omega) (by omega) (by omega) (by omega))
  have k3 : (Types.typ (Types.mth a2) (Types.cls a2) == a2) = true := beq_iff_eq.2 (typ_back a2 (by omega) (by omega))
  have k4 : (Types.typ 1 1 != 0) = true := by decide
  go_enter Try.func5, Try.ntmps5
  go_wp2_with fail
  refine (Types.typeValue_impl _ _ (by omega) (by omega) (by omega) (by omega) _).mono ?_
  rintro e v1 ⟨rfl, hg1⟩
  go_wp2_with fail
  refine (Types.typeOf_impl _ t1 t2 _).mono ?_
  rintro e v2 ⟨rfl, hg2⟩
  go_wp2_with fail
  refine (Types.typeOf_impl _ (by omega) (by omega) _).mono ?_
  rintro e v3 ⟨rfl, hg3⟩
  go_wp2_with fail
  refine (Types.typeValue_impl _ _ t3 t4 t5 t6 _).mono ?_
  rintro e v4 ⟨rfl, hg4⟩
  go_wp2_with fail
  refine (Types.typeValue_impl _ _ (by omega) (by omega) (by omega) (by omega) _).mono ?_
  rintro e v5 ⟨rfl, hg5⟩
  go_wp2
  go_ret
  exact ⟨by simp, grown_trans hg1 (grown_trans hg2 (grown_trans hg3 (grown_trans hg4 hg5)))⟩

/-! ### THE ROW's STEP: WRITTEN OUT: LEAVE IT -/
set_option maxRecDepth 100000 in
theorem lifted (os : Os) (started : os.Started) (H : Type) (enc : TypeId × Value → H) :
    ReturnsInHanded {} Try.checked os 5 .any (Rows.fnTypeBackSpec.pre6 enc Try.prog Try.f5 Rows.fnTypeBackRow.domain false) (Rows.fnTypeBackSpec.post enc Try.prog Try.f5 false true false false) := by
  refine returnsInHanded_of_change (C := Try.checked) own started (by kernel_rfl) Try.func5
    (ChangeSpec.witness6 (enc := enc) (C := Try.checked) false ⟨#[], #[.int .i64 0, .int .i64 0, .int .i64 0], []⟩ 8 (by kernel_rfl) (by kernel_rfl) (by kernel_rfl) (by kernel_rfl)) ?_
  intro W base args ds gs before hval0 hW hcnd _
  have hval : ∀ (j : Nat) t v, Try.f5.params[j]? = some t → args[j]? = some v → Value.okWide Try.prog W .any base t v := hval0
  have hW' := hW
  obtain ⟨p, q, hA0, hV, rfl, hfz, hnd⟩ := hW
  have hA : DataW.TrodAll enc Try.prog W 0 (fun _ => true) true Try.f5.params.toList args.toList ds p := hA0
  rw [Try.params5] at hA hval
  obtain ⟨v0, vs0, d0, ds0, p0, q0, hargs, rfl, rfl, h0, r0⟩ := trodAll_cons hA
  obtain ⟨v1, vs1, d1, ds1, p1, q1, rfl, rfl, rfl, h1, r1⟩ := trodAll_cons r0
  obtain ⟨v2, vs2, d2, ds2, p2, q2, rfl, rfl, rfl, h2, r2⟩ := trodAll_cons r1
  obtain ⟨rfl, rfl, rfl⟩ := trodAll_nil r2
  obtain rfl : args = #[v0, v1, v2] := by cases args; simp_all
  obtain ⟨rfl, rfl⟩ := trodVars_none hV
  obtain ⟨a0, rfl, rfl, rfl, w0⟩ := open_int Try.underlying3 (hval 0 3 v0 rfl rfl) h0
  obtain ⟨a1, rfl, rfl, rfl, w1⟩ := open_int Try.underlying3 (hval 1 3 v1 rfl rfl) h1
  obtain ⟨a2, rfl, rfl, rfl, w2⟩ := open_int Try.underlying3 (hval 2 3 v2 rfl rfl) h2
  clear hA0 hval0
  simp only [List.append_nil] at hW'
  refine (walk a0 a1 a2 w0 w1 w2 W).mono fun e W' ⟨he, hg⟩ => ?_
  subst he
  exact ⟨_, rfl, post_of_same (pa := []) (pv := []) hW' (fun _ _ _ => (trodAll_cons_mk (shut_bool Try.underlying4 _) trodAll_mk0)) (fun sp _ => (trodAll_cons_mk (shut_int Try.underlying3 w0) (trodAll_cons_mk (shut_int Try.underlying3 w1) (trodAll_cons_mk (shut_int Try.underlying3 w2) trodAll_mk0)))) (fun _ _ => rfl) rfl
    (hg.frame _) hg.2.1 (ok_one (by kernel_rfl) rfl (okWide_bool_mk Try.underlying4 _))⟩

theorem over : Rows.fnTypeBackRow.holds Try.pinned (OpenSpec.ofChange Rows.fnTypeBackSpec) :=
  OpenClaim.holds_of_wide 5 Try.f5 rfl rfl rfl rfl rfl rfl rfl ⟨rfl, rfl, rfl, rfl, rfl⟩ rfl rfl rfl rfl rfl (by kernel_rfl) Try.func5 (by kernel_rfl)
    (of_decide_eq_true (by kernel_rfl)) (by unfold Func.isWrapper; first | (rw [if_pos (by decide +kernel)]; kernel_rfl) | (rw [if_neg (by decide +kernel)]; exact ⟨rfl, rfl⟩))
    (fun os started H enc _ => lifted os started H enc)

/-- ████ THE STATEMENT ████ -/
theorem proved : Rows.FnTypeBackSaid :=
  over
#print axioms proved
end Go.Proofs.Ytpcbdomhhoffkaa.fnTypeBack
