/- md5.New lays a digest that has taken up nothing; md5.lePutUint64 and md5.lePutUint32 write numbers into bytes, the lowest byte first. -/
import Derived.Test.YtcmopgfagooboaaDoorDigest
import Derived.WalkSpells
namespace Go.Proofs.YtcmopgfagooboaaDoor
open Go.RowKit
open Md5 (W H4)

theorem reset_any (D : Nat) (h : H4) (Xs : List UInt8) (nx len : Nat) (w : World) (r : Raw w D h Xs nx len) :
    Calls Tryd.prog 18 #[.pointer (some ⟨D, 0, none⟩)] w fun e w' => e = .returned (.tuple #[]) ∧ Raw w' D Md5.iv Xs 0 0 ∧ Only D w w' := by
  have g0 := r.c0
  have g1 := r.c1
  have g2 := r.c2
  have g3 := r.c3
  have g68 := r.cnx
  have g69 := r.clen
  have z0 := r.free 0
  have z1 := r.free 1
  have z2 := r.free 2
  have z3 := r.free 3
  have z68 := r.free 68
  have z69 := r.free 69
  have HR := Lib.hid r
  clear r
  go_enter Tryd.func18, Tryd.ntmps18
  go_wp2
  go_end0
  refine ⟨rfl, ?_, ((((((Only.refl D w).setCell _).setCell _).setCell _).setCell _).setCell _).setCell _⟩
  have h4 : Raw ((((w.setCell ⟨D, 0, none⟩ (.int .u32 1732584193)).setCell ⟨D, 1, none⟩ (.int .u32 4023233417)).setCell ⟨D, 2, none⟩ (.int .u32 2562383102)).setCell ⟨D, 3, none⟩ (.int .u32 271733878)) D Md5.iv Xs nx len := by
    refine ⟨HR.out.xl, ?_⟩
    rw [set_at _ D 3 _ 47 _ (set_at _ D 2 _ 47 _ (set_at _ D 1 _ 47 _ (set_at _ D 0 _ 47 _ HR.out.blk)))]
    rfl
  exact (h4.setNx 0).setLen 0

def zero47 : Array Value := (image ⟨0, 0, 0, 0⟩ (List.replicate 64 0) 0 0).toArray
theorem zero47_is (w : World) : Sem.run Tryd.prog (zeroValue 47) w = .ok (.agg zero47) w := by kernel_rfl
theorem new_any (w : World) : Calls Tryd.prog 11 #[] w fun e w' => e = .returned (.pointer (some ⟨w.heap.size, 0, none⟩)) ∧ Raw w' w.heap.size Md5.iv (List.replicate 64 0) 0 0 ∧ Below w.heap.size w w' ∧ w'.heap.size = w.heap.size + 1 := by
  have hz := zero47_is
  have hr : Raw (w.alloc (.cells zero47 47)) w.heap.size ⟨0, 0, 0, 0⟩ (List.replicate 64 0) 0 0 := ⟨by simp, (MapKept.heap_alloc w _).1⟩
  have HK := Lib.hid (reset_any w.heap.size _ _ _ _ _ hr)
  clear hr
  go_enter Tryd.func11, Tryd.ntmps11
  go_wp2_with fail
  refine HK.out.mono ?_
  rintro e w1 ⟨rfl, hr, ho⟩
  have HR := Lib.hid hr
  have HO := Lib.hid ho
  clear hr ho
  go_wp2_with fail
  go_ret
  refine ⟨rfl, HR.out, ((Below.refl _ w).alloc (Nat.le_refl _) _).trans (HO.out.below (Nat.le_refl _)), ?_⟩
  rw [HO.out.size]
  simp
end Go.Proofs.YtcmopgfagooboaaDoor
