/-
  Parts of the proof (Ver2).
-/
import Derived.Test.YtplpafbkalkchaaGreatDoorM07
set_option linter.unusedSimpArgs false
set_option linter.unusedVariables false

namespace Go.Proofs.YtplpafbkalkchaaGreatDoor
open Go.RowKit

def o1 (l : List Value) (t : TypeId) : Obj := .cells l.toArray t
/-- What the making of a version lays. -/
def verW (w : World) (v : Nat) : World :=
  (((((w.alloc (.cells ((QR.centers v).map vi).toArray 3)).alloc (.cells (pairs (QR.grp v 0)).toArray 217)).alloc (.cells (pairs (QR.grp v 1)).toArray 217)).alloc (.cells (pairs (QR.grp v 2)).toArray 217)).alloc
    (.cells (pairs (QR.grp v 3)).toArray 217)).alloc (.cells (ecRow v w.heap.size).toArray 204)
theorem verW_size (w : World) (v : Nat) : (verW w v).heap.size = w.heap.size + 6 := by simp [verW]
theorem verW_keeps (w : World) (v : Nat) : Keeps (fun _ => False) w (verW w v) := ((((((Keeps.refl _ w).alloc _).alloc _).alloc _).alloc _).alloc _).alloc _
theorem Blk.newAt {w : World} {n : Nat} (hn : n = w.heap.size) (cs : List Value) (t : TypeId) : Blk (w.alloc (.cells cs.toArray t)) n cs t := by subst hn; exact Blk.new w cs t
theorem verW_blks (w : World) (v : Nat) : Blk (verW w v) w.heap.size ((QR.centers v).map vi) 3 ∧ Blk (verW w v) (w.heap.size + 5) (ecRow v w.heap.size) 204 ∧ ∀ i, i < 4 → Blk (verW w v) (w.heap.size + 1 + i) (pairs (QR.grp v i)) 217 := by
  unfold verW
  refine ⟨((((Blk.new w _ 3).alloc _).alloc _).alloc _).alloc _ |>.alloc _, Blk.newAt (by simp) _ _, fun i hi => ?_⟩
  obtain rfl | rfl | rfl | rfl : i = 0 ∨ i = 1 ∨ i = 2 ∨ i = 3 := by omega
  · exact ((((Blk.newAt (by simp) _ _).alloc _).alloc _).alloc _).alloc _
  · exact (((Blk.newAt (by simp) _ _).alloc _).alloc _).alloc _
  · exact ((Blk.newAt (by simp) _ _).alloc _).alloc _
  · exact (Blk.newAt (by simp) _ _).alloc _
theorem verW_ecl (w : World) (v : Nat) : ECL (verW w v) (w.heap.size + 5) 0 (w.heap.size + 1) v 0 := by
  obtain ⟨_, h2, h3⟩ := verW_blks w v
  exact ⟨h2.cell rfl, h2.cell rfl, h3 0 (by omega), h2.lt⟩
theorem verW_ver (w : World) (v b : Nat) (w' : World) (hb : Blk w' b [vi v, .slice (some ⟨w.heap.size, 0, none⟩) (QR.centers v).length (QR.centers v).length, .slice (some ⟨w.heap.size + 5, 0, none⟩) 4 4, vi (QR.total v)] 207)
    (hk : Keeps (fun _ => False) (verW w v) w') (hl : (verW w v).heap.size ≤ b) : Ver w' w.heap.size b v ∧ Keeps (fun _ => False) w w' := by
  obtain ⟨h1, h2, h3⟩ := verW_blks w v
  rw [verW_size] at hl
  exact ⟨⟨hb, h1.keep hk (fun h => h), h2.keep hk (fun h => h), fun i hi => (h3 i hi).keep hk (fun h => h), by omega⟩, (verW_keeps w v).trans hk⟩

set_option maxRecDepth 100000 in
set_option maxHeartbeats 400000 in
theorem versionOf_1 (w : World) : Calls Tryz.prog 108 #[.int .i64 1] w fun e w' => ∃ b, e = .returned (.pointer (some ⟨b, 0, none⟩)) ∧ Ver w' w.heap.size b 1 ∧ Keeps (fun _ => False) w w' := by
  go_enter Tryz.func108, Tryz.ntmps108
  go_wp2_with fail
  refine (newVersion_ok (verW w 1) w.heap.size 1 1 19 0 (verW_ecl w 1) rfl (by omega) (by omega) (by decide)).mono ?_
  rintro e w1 ⟨b, rfl, h1, h2, h3⟩
  have H := Lib.hid (verW_ver w 1 b w1 h1 h2 h3)
  clear h1 h2 h3
  go_wp2
  go_ret
  exact ⟨b, rfl, H.out⟩

set_option maxRecDepth 100000 in
set_option maxHeartbeats 400000 in
theorem versionOf_2 (w : World) : Calls Tryz.prog 108 #[.int .i64 2] w fun e w' => ∃ b, e = .returned (.pointer (some ⟨b, 0, none⟩)) ∧ Ver w' w.heap.size b 2 ∧ Keeps (fun _ => False) w w' := by
  go_enter Tryz.func108, Tryz.ntmps108
  go_wp2_with fail
  refine (newVersion_ok (verW w 2) w.heap.size 2 1 34 2 (verW_ecl w 2) rfl (by omega) (by omega) (by decide)).mono ?_
  rintro e w1 ⟨b, rfl, h1, h2, h3⟩
  have H := Lib.hid (verW_ver w 2 b w1 h1 h2 h3)
  clear h1 h2 h3
  go_wp2
  go_ret
  exact ⟨b, rfl, H.out⟩

set_option maxRecDepth 100000 in
set_option maxHeartbeats 400000 in
theorem versionOf_3 (w : World) : Calls Tryz.prog 108 #[.int .i64 3] w fun e w' => ∃ b, e = .returned (.pointer (some ⟨b, 0, none⟩)) ∧ Ver w' w.heap.size b 3 ∧ Keeps (fun _ => False) w w' := by
  go_enter Tryz.func108, Tryz.ntmps108
  go_wp2_with fail
  refine (newVersion_ok (verW w 3) w.heap.size 3 1 55 2 (verW_ecl w 3) rfl (by omega) (by omega) (by decide)).mono ?_
  rintro e w1 ⟨b, rfl, h1, h2, h3⟩
  have H := Lib.hid (verW_ver w 3 b w1 h1 h2 h3)
  clear h1 h2 h3
  go_wp2
  go_ret
  exact ⟨b, rfl, H.out⟩

set_option maxRecDepth 100000 in
set_option maxHeartbeats 400000 in
theorem versionOf_4 (w : World) : Calls Tryz.prog 108 #[.int .i64 4] w fun e w' => ∃ b, e = .returned (.pointer (some ⟨b, 0, none⟩)) ∧ Ver w' w.heap.size b 4 ∧ Keeps (fun _ => False) w w' := by
  go_enter Tryz.func108, Tryz.ntmps108
  go_wp2_with fail
  refine (newVersion_ok (verW w 4) w.heap.size 4 1 80 2 (verW_ecl w 4) rfl (by omega) (by omega) (by decide)).mono ?_
  rintro e w1 ⟨b, rfl, h1, h2, h3⟩
  have H := Lib.hid (verW_ver w 4 b w1 h1 h2 h3)
  clear h1 h2 h3
  go_wp2
  go_ret
  exact ⟨b, rfl, H.out⟩

set_option maxRecDepth 100000 in
set_option maxHeartbeats 400000 in
theorem versionOf_5 (w : World) : Calls Tryz.prog 108 #[.int .i64 5] w fun e w' => ∃ b, e = .returned (.pointer (some ⟨b, 0, none⟩)) ∧ Ver w' w.heap.size b 5 ∧ Keeps (fun _ => False) w w' := by
  go_enter Tryz.func108, Tryz.ntmps108
  go_wp2_with fail
  refine (newVersion_ok (verW w 5) w.heap.size 5 1 108 2 (verW_ecl w 5) rfl (by omega) (by omega) (by decide)).mono ?_
  rintro e w1 ⟨b, rfl, h1, h2, h3⟩
  have H := Lib.hid (verW_ver w 5 b w1 h1 h2 h3)
  clear h1 h2 h3
  go_wp2
  go_ret
  exact ⟨b, rfl, H.out⟩

set_option maxRecDepth 100000 in
set_option maxHeartbeats 400000 in
theorem versionOf_6 (w : World) : Calls Tryz.prog 108 #[.int .i64 6] w fun e w' => ∃ b, e = .returned (.pointer (some ⟨b, 0, none⟩)) ∧ Ver w' w.heap.size b 6 ∧ Keeps (fun _ => False) w w' := by
  go_enter Tryz.func108, Tryz.ntmps108
  go_wp2_with fail
  refine (newVersion_ok (verW w 6) w.heap.size 6 2 68 2 (verW_ecl w 6) rfl (by omega) (by omega) (by decide)).mono ?_
  rintro e w1 ⟨b, rfl, h1, h2, h3⟩
  have H := Lib.hid (verW_ver w 6 b w1 h1 h2 h3)
  clear h1 h2 h3
  go_wp2
  go_ret
  exact ⟨b, rfl, H.out⟩

set_option maxRecDepth 100000 in
set_option maxHeartbeats 400000 in
theorem versionOf_7 (w : World) : Calls Tryz.prog 108 #[.int .i64 7] w fun e w' => ∃ b, e = .returned (.pointer (some ⟨b, 0, none⟩)) ∧ Ver w' w.heap.size b 7 ∧ Keeps (fun _ => False) w w' := by
  go_enter Tryz.func108, Tryz.ntmps108
  go_wp2_with fail
  refine (newVersion_ok (verW w 7) w.heap.size 7 2 78 3 (verW_ecl w 7) rfl (by omega) (by omega) (by decide)).mono ?_
  rintro e w1 ⟨b, rfl, h1, h2, h3⟩
  have H := Lib.hid (verW_ver w 7 b w1 h1 h2 h3)
  clear h1 h2 h3
  go_wp2
  go_ret
  exact ⟨b, rfl, H.out⟩

theorem versionOf_ok (v : Nat) (w : World) (h1 : 1 ≤ v) (h7 : v ≤ 7) (V : Int) (hV : V = (v : Int)) : Calls Tryz.prog 108 #[.int .i64 V] w fun e w' => ∃ b, e = .returned (.pointer (some ⟨b, 0, none⟩)) ∧ Ver w' w.heap.size b v ∧ Keeps (fun _ => False) w w' := by
  subst hV
  obtain rfl | rfl | rfl | rfl | rfl | rfl | rfl : v = 1 ∨ v = 2 ∨ v = 3 ∨ v = 4 ∨ v = 5 ∨ v = 6 ∨ v = 7 := by omega
  · exact versionOf_1 w
  · exact versionOf_2 w
  · exact versionOf_3 w
  · exact versionOf_4 w
  · exact versionOf_5 w
  · exact versionOf_6 w
  · exact versionOf_7 w

set_option maxRecDepth 100000 in
theorem version_ok (v : Nat) (w : World) (h1 : 1 ≤ v) (h7 : v ≤ 7) (V : Int) (hV : V = (v : Int)) : Calls Tryz.prog 45 #[.int .i64 V] w fun e w' => ∃ b, e = .returned (.tuple #[.pointer (some ⟨b, 0, none⟩), .nilIface]) ∧ Ver w' w.heap.size b v ∧ Keeps (fun _ => False) w w' := by
  subst hV
  have d1 : (decide ((v : Int) < 1)) = false := decide_eq_false (by omega)
  have d2 : (decide ((40 : Int) < (v : Int))) = false := decide_eq_false (by omega)
  go_enter Tryz.func45, Tryz.ntmps45
  go_wp2_with fail
  refine (versionOf_ok v w h1 h7 _ rfl).mono ?_
  rintro e w1 ⟨b, rfl, h⟩
  have H := Lib.hid h
  clear h
  go_wp2
  go_ret2
  exact ⟨b, rfl, H.out⟩

end Go.Proofs.YtplpafbkalkchaaGreatDoor
