/- One line of md5.blockGeneric, in its four forms: from a frame whose first thirty slots are known to one in which one of them has the new word. -/
import Derived.Test.YtcmopgfagooboaaDoorOps
namespace Go.Proofs.YtcmopgfagooboaaDoor
open Go.RowKit
open Md5 (W)
section
variable {P : Program} {ops : Array Oper} {Q : Exit → Act → World → Prop} {a : Act} {w : World} {rest : List Oper} {f : Nat → Value}
/-- a call that hands back a value -/
theorem op_call {c : Call} {ty : TypeId} {pos : String} {after : Array Edge} {d : Nat} {v : Value} {g : FuncId} {args : Array Value} {R : World → Prop} (hA : At a f) (hd : d < N)
    (hrun : (execOp a.eval ⟨some d, .call c, ty, pos, after, none⟩).run P w = .ok (.enter g args) w) (hc : Calls P g args w fun e w' => e = .returned v ∧ R w')
    (h : ∀ a' w', R w' → At a' (upd f d v) → wpList P ops Q rest a' w') : wpList P ops Q (⟨some d, .call c, ty, pos, after, none⟩ :: rest) a w :=
  wpList_plain rfl fun K hK => by
    show Oper.upon P _ a K Q ((execOp a.eval _).run P w)
    rw [hrun, Oper.upon_enter]
    refine hc.mono ?_
    rintro e w' ⟨rfl, hR⟩
    exact hK _ _ (h _ _ hR (hA.put d v hd))
end
theorem run_rot (w : World) (ρ : Operand → Value) (d : Option Nat) (i : Operand) (s : Int) (x : Value) (ty : TypeId) (pos : String) (after : Array Edge) (hx : ρ i = x) (hs : ρ (.const (.int .i64 s)) = .int .i64 s) (hf : ρ (.func 23) = .func (.func 23) #[] #[]) :
    (execOp ρ ⟨d, .call { callee := .value (.func 23), args := #[i, .const (.int .i64 s)], argTypes := #[37, 3] }, ty, pos, after, none⟩).run Tryd.prog w = .ok (.enter 23 #[x, .int .i64 s]) w := by
  simp [go_sem, execOp, hx, hs, hf]

/-- form 0 -/
theorem line0 {K : Act → World → Prop} {Q : Exit → Act → World → Prop} {a : Act} {w : World} {f : Nat → Value} {id ra rb rc rd rx : Nat} {kk : Int} {p0 p1 p2 p3 p4 p5 p6 p7 p8 p9 p10 p11 p12 p13 p14 p15 : String} {e0 e1 e2 e3 e4 e5 e6 e7 e8 e9 e10 e11 e12 e13 e14 e15 : Array Edge}
    (n s : Nat) (va vb vc vd vx kw : W) (hL : Live a f) (hn : 30 ≤ n) (hN : n + 15 < N) (la : ra < 30) (lb : rb < 30) (lc : rc < 30) (ld : rd < 30) (lx : rx < 30)
    (fa : f ra = U va) (fb : f rb = U vb) (fc : f rc = U vc) (fd : f rd = U vd) (fx : f rx = U vx) (hk : kk = ((kw.toNat : Nat) : Int)) (s1 : 1 ≤ s) (s2 : s ≤ 31)
    (z : W) (hz : (vb + (((((((vc ^^^ vd) &&& vb) ^^^ vd) + va) + vx) + kw).rotateLeft s)) = z) (h : ∀ a', Live a' (upd f ra (U z)) → K a' w) :
    (Code.region id #[⟨some (n), .move (.tmp rb), 37, p0, e0, none⟩, ⟨some (n + 1), .move (.tmp rc), 37, p1, e1, none⟩, ⟨some (n + 2), .move (.tmp rd), 37, p2, e2, none⟩, ⟨some (n + 3), .binOp .xor 37 (.tmp (n + 1)) (.tmp (n + 2)) 37, 37, p3, e3, none⟩, ⟨some (n + 4), .move (.tmp rb), 37, p4, e4, none⟩, ⟨some (n + 5), .binOp .and 37 (.tmp (n + 3)) (.tmp (n + 4)) 37, 37, p5, e5, none⟩, ⟨some (n + 6), .move (.tmp rd), 37, p6, e6, none⟩, ⟨some (n + 7), .binOp .xor 37 (.tmp (n + 5)) (.tmp (n + 6)) 37, 37, p7, e7, none⟩, ⟨some (n + 8), .move (.tmp ra), 37, p8, e8, none⟩, ⟨some (n + 9), .binOp .add 37 (.tmp (n + 7)) (.tmp (n + 8)) 37, 37, p9, e9, none⟩, ⟨some (n + 10), .move (.tmp rx), 37, p10, e10, none⟩, ⟨some (n + 11), .binOp .add 37 (.tmp (n + 9)) (.tmp (n + 10)) 37, 37, p11, e11, none⟩, ⟨some (n + 12), .binOp .add 37 (.tmp (n + 11)) (.const (.int .u32 kk)) 37, 37, p12, e12, none⟩, ⟨some (n + 13), .call { callee := .value (.func 23), args := #[.tmp (n + 12), .const (.int .i64 ((s : Nat) : Int))], argTypes := #[37, 3] }, 37, p13, e13, none⟩, ⟨some (n + 14), .binOp .add 37 (.tmp (n)) (.tmp (n + 13)) 37, 37, p14, e14, none⟩, ⟨some ra, .assign (.tmp (n + 14)), 37, p15, e15, none⟩] false).wp Tryd.prog (Exit.then K Q) a w := by
  obtain ⟨g, hA, hg⟩ := hL.at_
  rw [← hg _ la] at fa
  rw [← hg _ lb] at fb
  rw [← hg _ lc] at fc
  rw [← hg _ ld] at fd
  rw [← hg _ lx] at fx
  unfold N at hN
  subst hk
  subst hz
  apply wp_region_lit
  refine op_move (v := U vb) hA (by unfold N; omega) (i := rb) (by unfold N; omega) ?_ fun a0 h0 => ?_
  · first | exact fb | (simp (disch := omega) only [upd_ne]; exact fb)
  refine op_move (v := U vc) h0 (by unfold N; omega) (i := rc) (by unfold N; omega) ?_ fun a1 h1 => ?_
  · first | exact fc | (simp (disch := omega) only [upd_ne]; exact fc)
  refine op_move (v := U vd) h1 (by unfold N; omega) (i := rd) (by unfold N; omega) ?_ fun a2 h2 => ?_
  · first | exact fd | (simp (disch := omega) only [upd_ne]; exact fd)
  refine op_at h2 (by unfold N; omega) (run_xor vc vd _ _ _ _ _ _ _ _ (eval_at h2 (by unfold N; omega) ?_) (eval_at h2 (by unfold N; omega) ?_)) fun a3 h3 => ?_
  · simp (disch := omega) only [upd_same, upd_ne]
  · exact upd_same _ _ _
  refine op_move (v := U vb) h3 (by unfold N; omega) (i := rb) (by unfold N; omega) ?_ fun a4 h4 => ?_
  · first | exact fb | (simp (disch := omega) only [upd_ne]; exact fb)
  refine op_at h4 (by unfold N; omega) (run_and (vc ^^^ vd) vb _ _ _ _ _ _ _ _ (eval_at h4 (by unfold N; omega) ?_) (eval_at h4 (by unfold N; omega) ?_)) fun a5 h5 => ?_
  · simp (disch := omega) only [upd_same, upd_ne]
  · exact upd_same _ _ _
  refine op_move (v := U vd) h5 (by unfold N; omega) (i := rd) (by unfold N; omega) ?_ fun a6 h6 => ?_
  · first | exact fd | (simp (disch := omega) only [upd_ne]; exact fd)
  refine op_at h6 (by unfold N; omega) (run_xor ((vc ^^^ vd) &&& vb) vd _ _ _ _ _ _ _ _ (eval_at h6 (by unfold N; omega) ?_) (eval_at h6 (by unfold N; omega) ?_)) fun a7 h7 => ?_
  · simp (disch := omega) only [upd_same, upd_ne]
  · exact upd_same _ _ _
  refine op_move (v := U va) h7 (by unfold N; omega) (i := ra) (by unfold N; omega) ?_ fun a8 h8 => ?_
  · first | exact fa | (simp (disch := omega) only [upd_ne]; exact fa)
  refine op_at h8 (by unfold N; omega) (run_add (((vc ^^^ vd) &&& vb) ^^^ vd) va _ _ _ _ _ _ _ _ (eval_at h8 (by unfold N; omega) ?_) (eval_at h8 (by unfold N; omega) ?_)) fun a9 h9 => ?_
  · simp (disch := omega) only [upd_same, upd_ne]
  · exact upd_same _ _ _
  refine op_move (v := U vx) h9 (by unfold N; omega) (i := rx) (by unfold N; omega) ?_ fun a10 h10 => ?_
  · first | exact fx | (simp (disch := omega) only [upd_ne]; exact fx)
  refine op_at h10 (by unfold N; omega) (run_add ((((vc ^^^ vd) &&& vb) ^^^ vd) + va) vx _ _ _ _ _ _ _ _ (eval_at h10 (by unfold N; omega) ?_) (eval_at h10 (by unfold N; omega) ?_)) fun a11 h11 => ?_
  · simp (disch := omega) only [upd_same, upd_ne]
  · exact upd_same _ _ _
  refine op_at h11 (by unfold N; omega) (run_add (((((vc ^^^ vd) &&& vb) ^^^ vd) + va) + vx) kw _ _ _ _ _ _ _ _ (eval_at h11 (by unfold N; omega) ?_) rfl) fun a12 h12 => ?_
  · exact upd_same _ _ _
  refine op_call (R := fun w1 => w = w1) h12 (by unfold N; omega) (run_rot _ _ _ _ _ (U ((((((vc ^^^ vd) &&& vb) ^^^ vd) + va) + vx) + kw)) _ _ _ (eval_at h12 (by unfold N; omega) ?_) rfl rfl) (rot_any ((((((vc ^^^ vd) &&& vb) ^^^ vd) + va) + vx) + kw) s s1 s2 w) fun a13 w1 hw h13 => ?_
  · exact upd_same _ _ _
  subst hw
  refine op_at h13 (by unfold N; omega) (run_add vb (((((((vc ^^^ vd) &&& vb) ^^^ vd) + va) + vx) + kw).rotateLeft s) _ _ _ _ _ _ _ _ (eval_at h13 (by unfold N; omega) ?_) (eval_at h13 (by unfold N; omega) ?_)) fun a14 h14 => ?_
  · simp (disch := omega) only [upd_same, upd_ne]
  · exact upd_same _ _ _
  refine op_assign (v := U (vb + (((((((vc ^^^ vd) &&& vb) ^^^ vd) + va) + vx) + kw).rotateLeft s))) h14 (by unfold N; omega) (i := n + 14) (by unfold N; omega) (upd_same _ _ _) fun a15 h15 => ?_
  refine wpList_nil (h _ (h15.live fun k hk => ?_))
  by_cases e : k = ra
  · subst e; rw [upd_same, upd_same]
  · simp (disch := omega) only [upd_ne]
    exact hg k hk

/-- form 1 -/
theorem line1 {K : Act → World → Prop} {Q : Exit → Act → World → Prop} {a : Act} {w : World} {f : Nat → Value} {id ra rb rc rd rx : Nat} {kk : Int} {p0 p1 p2 p3 p4 p5 p6 p7 p8 p9 p10 p11 p12 p13 p14 p15 : String} {e0 e1 e2 e3 e4 e5 e6 e7 e8 e9 e10 e11 e12 e13 e14 e15 : Array Edge}
    (n s : Nat) (va vb vc vd vx kw : W) (hL : Live a f) (hn : 30 ≤ n) (hN : n + 15 < N) (la : ra < 30) (lb : rb < 30) (lc : rc < 30) (ld : rd < 30) (lx : rx < 30)
    (fa : f ra = U va) (fb : f rb = U vb) (fc : f rc = U vc) (fd : f rd = U vd) (fx : f rx = U vx) (hk : kk = ((kw.toNat : Nat) : Int)) (s1 : 1 ≤ s) (s2 : s ≤ 31)
    (z : W) (hz : (vb + (((((((vb ^^^ vc) &&& vd) ^^^ vc) + va) + vx) + kw).rotateLeft s)) = z) (h : ∀ a', Live a' (upd f ra (U z)) → K a' w) :
    (Code.region id #[⟨some (n), .move (.tmp rb), 37, p0, e0, none⟩, ⟨some (n + 1), .move (.tmp rb), 37, p1, e1, none⟩, ⟨some (n + 2), .move (.tmp rc), 37, p2, e2, none⟩, ⟨some (n + 3), .binOp .xor 37 (.tmp (n + 1)) (.tmp (n + 2)) 37, 37, p3, e3, none⟩, ⟨some (n + 4), .move (.tmp rd), 37, p4, e4, none⟩, ⟨some (n + 5), .binOp .and 37 (.tmp (n + 3)) (.tmp (n + 4)) 37, 37, p5, e5, none⟩, ⟨some (n + 6), .move (.tmp rc), 37, p6, e6, none⟩, ⟨some (n + 7), .binOp .xor 37 (.tmp (n + 5)) (.tmp (n + 6)) 37, 37, p7, e7, none⟩, ⟨some (n + 8), .move (.tmp ra), 37, p8, e8, none⟩, ⟨some (n + 9), .binOp .add 37 (.tmp (n + 7)) (.tmp (n + 8)) 37, 37, p9, e9, none⟩, ⟨some (n + 10), .move (.tmp rx), 37, p10, e10, none⟩, ⟨some (n + 11), .binOp .add 37 (.tmp (n + 9)) (.tmp (n + 10)) 37, 37, p11, e11, none⟩, ⟨some (n + 12), .binOp .add 37 (.tmp (n + 11)) (.const (.int .u32 kk)) 37, 37, p12, e12, none⟩, ⟨some (n + 13), .call { callee := .value (.func 23), args := #[.tmp (n + 12), .const (.int .i64 ((s : Nat) : Int))], argTypes := #[37, 3] }, 37, p13, e13, none⟩, ⟨some (n + 14), .binOp .add 37 (.tmp (n)) (.tmp (n + 13)) 37, 37, p14, e14, none⟩, ⟨some ra, .assign (.tmp (n + 14)), 37, p15, e15, none⟩] false).wp Tryd.prog (Exit.then K Q) a w := by
  obtain ⟨g, hA, hg⟩ := hL.at_
  rw [← hg _ la] at fa
  rw [← hg _ lb] at fb
  rw [← hg _ lc] at fc
  rw [← hg _ ld] at fd
  rw [← hg _ lx] at fx
  unfold N at hN
  subst hk
  subst hz
  apply wp_region_lit
  refine op_move (v := U vb) hA (by unfold N; omega) (i := rb) (by unfold N; omega) ?_ fun a0 h0 => ?_
  · first | exact fb | (simp (disch := omega) only [upd_ne]; exact fb)
  refine op_move (v := U vb) h0 (by unfold N; omega) (i := rb) (by unfold N; omega) ?_ fun a1 h1 => ?_
  · first | exact fb | (simp (disch := omega) only [upd_ne]; exact fb)
  refine op_move (v := U vc) h1 (by unfold N; omega) (i := rc) (by unfold N; omega) ?_ fun a2 h2 => ?_
  · first | exact fc | (simp (disch := omega) only [upd_ne]; exact fc)
  refine op_at h2 (by unfold N; omega) (run_xor vb vc _ _ _ _ _ _ _ _ (eval_at h2 (by unfold N; omega) ?_) (eval_at h2 (by unfold N; omega) ?_)) fun a3 h3 => ?_
  · simp (disch := omega) only [upd_same, upd_ne]
  · exact upd_same _ _ _
  refine op_move (v := U vd) h3 (by unfold N; omega) (i := rd) (by unfold N; omega) ?_ fun a4 h4 => ?_
  · first | exact fd | (simp (disch := omega) only [upd_ne]; exact fd)
  refine op_at h4 (by unfold N; omega) (run_and (vb ^^^ vc) vd _ _ _ _ _ _ _ _ (eval_at h4 (by unfold N; omega) ?_) (eval_at h4 (by unfold N; omega) ?_)) fun a5 h5 => ?_
  · simp (disch := omega) only [upd_same, upd_ne]
  · exact upd_same _ _ _
  refine op_move (v := U vc) h5 (by unfold N; omega) (i := rc) (by unfold N; omega) ?_ fun a6 h6 => ?_
  · first | exact fc | (simp (disch := omega) only [upd_ne]; exact fc)
  refine op_at h6 (by unfold N; omega) (run_xor ((vb ^^^ vc) &&& vd) vc _ _ _ _ _ _ _ _ (eval_at h6 (by unfold N; omega) ?_) (eval_at h6 (by unfold N; omega) ?_)) fun a7 h7 => ?_
  · simp (disch := omega) only [upd_same, upd_ne]
  · exact upd_same _ _ _
  refine op_move (v := U va) h7 (by unfold N; omega) (i := ra) (by unfold N; omega) ?_ fun a8 h8 => ?_
  · first | exact fa | (simp (disch := omega) only [upd_ne]; exact fa)
  refine op_at h8 (by unfold N; omega) (run_add (((vb ^^^ vc) &&& vd) ^^^ vc) va _ _ _ _ _ _ _ _ (eval_at h8 (by unfold N; omega) ?_) (eval_at h8 (by unfold N; omega) ?_)) fun a9 h9 => ?_
  · simp (disch := omega) only [upd_same, upd_ne]
  · exact upd_same _ _ _
  refine op_move (v := U vx) h9 (by unfold N; omega) (i := rx) (by unfold N; omega) ?_ fun a10 h10 => ?_
  · first | exact fx | (simp (disch := omega) only [upd_ne]; exact fx)
  refine op_at h10 (by unfold N; omega) (run_add ((((vb ^^^ vc) &&& vd) ^^^ vc) + va) vx _ _ _ _ _ _ _ _ (eval_at h10 (by unfold N; omega) ?_) (eval_at h10 (by unfold N; omega) ?_)) fun a11 h11 => ?_
  · simp (disch := omega) only [upd_same, upd_ne]
  · exact upd_same _ _ _
  refine op_at h11 (by unfold N; omega) (run_add (((((vb ^^^ vc) &&& vd) ^^^ vc) + va) + vx) kw _ _ _ _ _ _ _ _ (eval_at h11 (by unfold N; omega) ?_) rfl) fun a12 h12 => ?_
  · exact upd_same _ _ _
  refine op_call (R := fun w1 => w = w1) h12 (by unfold N; omega) (run_rot _ _ _ _ _ (U ((((((vb ^^^ vc) &&& vd) ^^^ vc) + va) + vx) + kw)) _ _ _ (eval_at h12 (by unfold N; omega) ?_) rfl rfl) (rot_any ((((((vb ^^^ vc) &&& vd) ^^^ vc) + va) + vx) + kw) s s1 s2 w) fun a13 w1 hw h13 => ?_
  · exact upd_same _ _ _
  subst hw
  refine op_at h13 (by unfold N; omega) (run_add vb (((((((vb ^^^ vc) &&& vd) ^^^ vc) + va) + vx) + kw).rotateLeft s) _ _ _ _ _ _ _ _ (eval_at h13 (by unfold N; omega) ?_) (eval_at h13 (by unfold N; omega) ?_)) fun a14 h14 => ?_
  · simp (disch := omega) only [upd_same, upd_ne]
  · exact upd_same _ _ _
  refine op_assign (v := U (vb + (((((((vb ^^^ vc) &&& vd) ^^^ vc) + va) + vx) + kw).rotateLeft s))) h14 (by unfold N; omega) (i := n + 14) (by unfold N; omega) (upd_same _ _ _) fun a15 h15 => ?_
  refine wpList_nil (h _ (h15.live fun k hk => ?_))
  by_cases e : k = ra
  · subst e; rw [upd_same, upd_same]
  · simp (disch := omega) only [upd_ne]
    exact hg k hk

/-- form 2 -/
theorem line2 {K : Act → World → Prop} {Q : Exit → Act → World → Prop} {a : Act} {w : World} {f : Nat → Value} {id ra rb rc rd rx : Nat} {kk : Int} {p0 p1 p2 p3 p4 p5 p6 p7 p8 p9 p10 p11 p12 p13 : String} {e0 e1 e2 e3 e4 e5 e6 e7 e8 e9 e10 e11 e12 e13 : Array Edge}
    (n s : Nat) (va vb vc vd vx kw : W) (hL : Live a f) (hn : 30 ≤ n) (hN : n + 13 < N) (la : ra < 30) (lb : rb < 30) (lc : rc < 30) (ld : rd < 30) (lx : rx < 30)
    (fa : f ra = U va) (fb : f rb = U vb) (fc : f rc = U vc) (fd : f rd = U vd) (fx : f rx = U vx) (hk : kk = ((kw.toNat : Nat) : Int)) (s1 : 1 ≤ s) (s2 : s ≤ 31)
    (z : W) (hz : (vb + ((((((vb ^^^ vc) ^^^ vd) + va) + vx) + kw).rotateLeft s)) = z) (h : ∀ a', Live a' (upd f ra (U z)) → K a' w) :
    (Code.region id #[⟨some (n), .move (.tmp rb), 37, p0, e0, none⟩, ⟨some (n + 1), .move (.tmp rb), 37, p1, e1, none⟩, ⟨some (n + 2), .move (.tmp rc), 37, p2, e2, none⟩, ⟨some (n + 3), .binOp .xor 37 (.tmp (n + 1)) (.tmp (n + 2)) 37, 37, p3, e3, none⟩, ⟨some (n + 4), .move (.tmp rd), 37, p4, e4, none⟩, ⟨some (n + 5), .binOp .xor 37 (.tmp (n + 3)) (.tmp (n + 4)) 37, 37, p5, e5, none⟩, ⟨some (n + 6), .move (.tmp ra), 37, p6, e6, none⟩, ⟨some (n + 7), .binOp .add 37 (.tmp (n + 5)) (.tmp (n + 6)) 37, 37, p7, e7, none⟩, ⟨some (n + 8), .move (.tmp rx), 37, p8, e8, none⟩, ⟨some (n + 9), .binOp .add 37 (.tmp (n + 7)) (.tmp (n + 8)) 37, 37, p9, e9, none⟩, ⟨some (n + 10), .binOp .add 37 (.tmp (n + 9)) (.const (.int .u32 kk)) 37, 37, p10, e10, none⟩, ⟨some (n + 11), .call { callee := .value (.func 23), args := #[.tmp (n + 10), .const (.int .i64 ((s : Nat) : Int))], argTypes := #[37, 3] }, 37, p11, e11, none⟩, ⟨some (n + 12), .binOp .add 37 (.tmp (n)) (.tmp (n + 11)) 37, 37, p12, e12, none⟩, ⟨some ra, .assign (.tmp (n + 12)), 37, p13, e13, none⟩] false).wp Tryd.prog (Exit.then K Q) a w := by
  obtain ⟨g, hA, hg⟩ := hL.at_
  rw [← hg _ la] at fa
  rw [← hg _ lb] at fb
  rw [← hg _ lc] at fc
  rw [← hg _ ld] at fd
  rw [← hg _ lx] at fx
  unfold N at hN
  subst hk
  subst hz
  apply wp_region_lit
  refine op_move (v := U vb) hA (by unfold N; omega) (i := rb) (by unfold N; omega) ?_ fun a0 h0 => ?_
  · first | exact fb | (simp (disch := omega) only [upd_ne]; exact fb)
  refine op_move (v := U vb) h0 (by unfold N; omega) (i := rb) (by unfold N; omega) ?_ fun a1 h1 => ?_
  · first | exact fb | (simp (disch := omega) only [upd_ne]; exact fb)
  refine op_move (v := U vc) h1 (by unfold N; omega) (i := rc) (by unfold N; omega) ?_ fun a2 h2 => ?_
  · first | exact fc | (simp (disch := omega) only [upd_ne]; exact fc)
  refine op_at h2 (by unfold N; omega) (run_xor vb vc _ _ _ _ _ _ _ _ (eval_at h2 (by unfold N; omega) ?_) (eval_at h2 (by unfold N; omega) ?_)) fun a3 h3 => ?_
  · simp (disch := omega) only [upd_same, upd_ne]
  · exact upd_same _ _ _
  refine op_move (v := U vd) h3 (by unfold N; omega) (i := rd) (by unfold N; omega) ?_ fun a4 h4 => ?_
  · first | exact fd | (simp (disch := omega) only [upd_ne]; exact fd)
  refine op_at h4 (by unfold N; omega) (run_xor (vb ^^^ vc) vd _ _ _ _ _ _ _ _ (eval_at h4 (by unfold N; omega) ?_) (eval_at h4 (by unfold N; omega) ?_)) fun a5 h5 => ?_
  · simp (disch := omega) only [upd_same, upd_ne]
  · exact upd_same _ _ _
  refine op_move (v := U va) h5 (by unfold N; omega) (i := ra) (by unfold N; omega) ?_ fun a6 h6 => ?_
  · first | exact fa | (simp (disch := omega) only [upd_ne]; exact fa)
  refine op_at h6 (by unfold N; omega) (run_add ((vb ^^^ vc) ^^^ vd) va _ _ _ _ _ _ _ _ (eval_at h6 (by unfold N; omega) ?_) (eval_at h6 (by unfold N; omega) ?_)) fun a7 h7 => ?_
  · simp (disch := omega) only [upd_same, upd_ne]
  · exact upd_same _ _ _
  refine op_move (v := U vx) h7 (by unfold N; omega) (i := rx) (by unfold N; omega) ?_ fun a8 h8 => ?_
  · first | exact fx | (simp (disch := omega) only [upd_ne]; exact fx)
  refine op_at h8 (by unfold N; omega) (run_add (((vb ^^^ vc) ^^^ vd) + va) vx _ _ _ _ _ _ _ _ (eval_at h8 (by unfold N; omega) ?_) (eval_at h8 (by unfold N; omega) ?_)) fun a9 h9 => ?_
  · simp (disch := omega) only [upd_same, upd_ne]
  · exact upd_same _ _ _
  refine op_at h9 (by unfold N; omega) (run_add ((((vb ^^^ vc) ^^^ vd) + va) + vx) kw _ _ _ _ _ _ _ _ (eval_at h9 (by unfold N; omega) ?_) rfl) fun a10 h10 => ?_
  · exact upd_same _ _ _
  refine op_call (R := fun w1 => w = w1) h10 (by unfold N; omega) (run_rot _ _ _ _ _ (U (((((vb ^^^ vc) ^^^ vd) + va) + vx) + kw)) _ _ _ (eval_at h10 (by unfold N; omega) ?_) rfl rfl) (rot_any (((((vb ^^^ vc) ^^^ vd) + va) + vx) + kw) s s1 s2 w) fun a11 w1 hw h11 => ?_
  · exact upd_same _ _ _
  subst hw
  refine op_at h11 (by unfold N; omega) (run_add vb ((((((vb ^^^ vc) ^^^ vd) + va) + vx) + kw).rotateLeft s) _ _ _ _ _ _ _ _ (eval_at h11 (by unfold N; omega) ?_) (eval_at h11 (by unfold N; omega) ?_)) fun a12 h12 => ?_
  · simp (disch := omega) only [upd_same, upd_ne]
  · exact upd_same _ _ _
  refine op_assign (v := U (vb + ((((((vb ^^^ vc) ^^^ vd) + va) + vx) + kw).rotateLeft s))) h12 (by unfold N; omega) (i := n + 12) (by unfold N; omega) (upd_same _ _ _) fun a13 h13 => ?_
  refine wpList_nil (h _ (h13.live fun k hk => ?_))
  by_cases e : k = ra
  · subst e; rw [upd_same, upd_same]
  · simp (disch := omega) only [upd_ne]
    exact hg k hk

/-- form 3 -/
theorem line3 {K : Act → World → Prop} {Q : Exit → Act → World → Prop} {a : Act} {w : World} {f : Nat → Value} {id ra rb rc rd rx : Nat} {kk : Int} {p0 p1 p2 p3 p4 p5 p6 p7 p8 p9 p10 p11 p12 p13 p14 : String} {e0 e1 e2 e3 e4 e5 e6 e7 e8 e9 e10 e11 e12 e13 e14 : Array Edge}
    (n s : Nat) (va vb vc vd vx kw : W) (hL : Live a f) (hn : 30 ≤ n) (hN : n + 14 < N) (la : ra < 30) (lb : rb < 30) (lc : rc < 30) (ld : rd < 30) (lx : rx < 30)
    (fa : f ra = U va) (fb : f rb = U vb) (fc : f rc = U vc) (fd : f rd = U vd) (fx : f rx = U vx) (hk : kk = ((kw.toNat : Nat) : Int)) (s1 : 1 ≤ s) (s2 : s ≤ 31)
    (z : W) (hz : (vb + (((((vc ^^^ (vb ||| (~~~vd))) + va) + vx) + kw).rotateLeft s)) = z) (h : ∀ a', Live a' (upd f ra (U z)) → K a' w) :
    (Code.region id #[⟨some (n), .move (.tmp rb), 37, p0, e0, none⟩, ⟨some (n + 1), .move (.tmp rc), 37, p1, e1, none⟩, ⟨some (n + 2), .move (.tmp rb), 37, p2, e2, none⟩, ⟨some (n + 3), .move (.tmp rd), 37, p3, e3, none⟩, ⟨some (n + 4), .unOp .xor 37 (.tmp (n + 3)), 37, p4, e4, none⟩, ⟨some (n + 5), .binOp .or 37 (.tmp (n + 2)) (.tmp (n + 4)) 37, 37, p5, e5, none⟩, ⟨some (n + 6), .binOp .xor 37 (.tmp (n + 1)) (.tmp (n + 5)) 37, 37, p6, e6, none⟩, ⟨some (n + 7), .move (.tmp ra), 37, p7, e7, none⟩, ⟨some (n + 8), .binOp .add 37 (.tmp (n + 6)) (.tmp (n + 7)) 37, 37, p8, e8, none⟩, ⟨some (n + 9), .move (.tmp rx), 37, p9, e9, none⟩, ⟨some (n + 10), .binOp .add 37 (.tmp (n + 8)) (.tmp (n + 9)) 37, 37, p10, e10, none⟩, ⟨some (n + 11), .binOp .add 37 (.tmp (n + 10)) (.const (.int .u32 kk)) 37, 37, p11, e11, none⟩, ⟨some (n + 12), .call { callee := .value (.func 23), args := #[.tmp (n + 11), .const (.int .i64 ((s : Nat) : Int))], argTypes := #[37, 3] }, 37, p12, e12, none⟩, ⟨some (n + 13), .binOp .add 37 (.tmp (n)) (.tmp (n + 12)) 37, 37, p13, e13, none⟩, ⟨some ra, .assign (.tmp (n + 13)), 37, p14, e14, none⟩] false).wp Tryd.prog (Exit.then K Q) a w := by
  obtain ⟨g, hA, hg⟩ := hL.at_
  rw [← hg _ la] at fa
  rw [← hg _ lb] at fb
  rw [← hg _ lc] at fc
  rw [← hg _ ld] at fd
  rw [← hg _ lx] at fx
  unfold N at hN
  subst hk
  subst hz
  apply wp_region_lit
  refine op_move (v := U vb) hA (by unfold N; omega) (i := rb) (by unfold N; omega) ?_ fun a0 h0 => ?_
  · first | exact fb | (simp (disch := omega) only [upd_ne]; exact fb)
  refine op_move (v := U vc) h0 (by unfold N; omega) (i := rc) (by unfold N; omega) ?_ fun a1 h1 => ?_
  · first | exact fc | (simp (disch := omega) only [upd_ne]; exact fc)
  refine op_move (v := U vb) h1 (by unfold N; omega) (i := rb) (by unfold N; omega) ?_ fun a2 h2 => ?_
  · first | exact fb | (simp (disch := omega) only [upd_ne]; exact fb)
  refine op_move (v := U vd) h2 (by unfold N; omega) (i := rd) (by unfold N; omega) ?_ fun a3 h3 => ?_
  · first | exact fd | (simp (disch := omega) only [upd_ne]; exact fd)
  refine op_at h3 (by unfold N; omega) (run_not vd _ _ _ _ _ _ _ (eval_at h3 (by unfold N; omega) ?_)) fun a4 h4 => ?_
  · exact upd_same _ _ _
  refine op_at h4 (by unfold N; omega) (run_or vb (~~~vd) _ _ _ _ _ _ _ _ (eval_at h4 (by unfold N; omega) ?_) (eval_at h4 (by unfold N; omega) ?_)) fun a5 h5 => ?_
  · simp (disch := omega) only [upd_same, upd_ne]
  · exact upd_same _ _ _
  refine op_at h5 (by unfold N; omega) (run_xor vc (vb ||| (~~~vd)) _ _ _ _ _ _ _ _ (eval_at h5 (by unfold N; omega) ?_) (eval_at h5 (by unfold N; omega) ?_)) fun a6 h6 => ?_
  · simp (disch := omega) only [upd_same, upd_ne]
  · exact upd_same _ _ _
  refine op_move (v := U va) h6 (by unfold N; omega) (i := ra) (by unfold N; omega) ?_ fun a7 h7 => ?_
  · first | exact fa | (simp (disch := omega) only [upd_ne]; exact fa)
  refine op_at h7 (by unfold N; omega) (run_add (vc ^^^ (vb ||| (~~~vd))) va _ _ _ _ _ _ _ _ (eval_at h7 (by unfold N; omega) ?_) (eval_at h7 (by unfold N; omega) ?_)) fun a8 h8 => ?_
  · simp (disch := omega) only [upd_same, upd_ne]
  · exact upd_same _ _ _
  refine op_move (v := U vx) h8 (by unfold N; omega) (i := rx) (by unfold N; omega) ?_ fun a9 h9 => ?_
  · first | exact fx | (simp (disch := omega) only [upd_ne]; exact fx)
  refine op_at h9 (by unfold N; omega) (run_add ((vc ^^^ (vb ||| (~~~vd))) + va) vx _ _ _ _ _ _ _ _ (eval_at h9 (by unfold N; omega) ?_) (eval_at h9 (by unfold N; omega) ?_)) fun a10 h10 => ?_
  · simp (disch := omega) only [upd_same, upd_ne]
  · exact upd_same _ _ _
  refine op_at h10 (by unfold N; omega) (run_add (((vc ^^^ (vb ||| (~~~vd))) + va) + vx) kw _ _ _ _ _ _ _ _ (eval_at h10 (by unfold N; omega) ?_) rfl) fun a11 h11 => ?_
  · exact upd_same _ _ _
  refine op_call (R := fun w1 => w = w1) h11 (by unfold N; omega) (run_rot _ _ _ _ _ (U ((((vc ^^^ (vb ||| (~~~vd))) + va) + vx) + kw)) _ _ _ (eval_at h11 (by unfold N; omega) ?_) rfl rfl) (rot_any ((((vc ^^^ (vb ||| (~~~vd))) + va) + vx) + kw) s s1 s2 w) fun a12 w1 hw h12 => ?_
  · exact upd_same _ _ _
  subst hw
  refine op_at h12 (by unfold N; omega) (run_add vb (((((vc ^^^ (vb ||| (~~~vd))) + va) + vx) + kw).rotateLeft s) _ _ _ _ _ _ _ _ (eval_at h12 (by unfold N; omega) ?_) (eval_at h12 (by unfold N; omega) ?_)) fun a13 h13 => ?_
  · simp (disch := omega) only [upd_same, upd_ne]
  · exact upd_same _ _ _
  refine op_assign (v := U (vb + (((((vc ^^^ (vb ||| (~~~vd))) + va) + vx) + kw).rotateLeft s))) h13 (by unfold N; omega) (i := n + 13) (by unfold N; omega) (upd_same _ _ _) fun a14 h14 => ?_
  refine wpList_nil (h _ (h14.live fun k hk => ?_))
  by_cases e : k = ra
  · subst e; rw [upd_same, upd_same]
  · simp (disch := omega) only [upd_ne]
    exact hg k hk
end Go.Proofs.YtcmopgfagooboaaDoor
