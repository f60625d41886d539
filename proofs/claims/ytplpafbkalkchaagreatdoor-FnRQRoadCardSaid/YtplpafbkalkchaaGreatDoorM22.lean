/-
  Parts of the proof (YM, YM2, RO).
-/
import Derived.Test.YtplpafbkalkchaaGreatDoorM06
import Derived.Test.YtplpafbkalkchaaGreatDoorProg
import Derived.StillTailTactics
set_option linter.unusedSimpArgs false
set_option linter.unusedVariables false

namespace Go.Proofs.YtplpafbkalkchaaGreatDoor
open Go.RowKit

def inRows (g : Nat → Nat) (n : Nat) (i : Nat) : Prop := ∃ y, y < n ∧ i = g y
/-- A ByteMatrix at block b of n by n bytes: its slices at m, its rows at g y. -/
structure YM (w : World) (b m n : Nat) (g : Nat → Nat) (f : Nat → Nat → Int) : Prop where
  head : Blk w b [.slice (some ⟨m, 0, none⟩) n n, .int .i64 (n : Int), .int .i64 (n : Int)] 223
  rows : RowsK w m n n n g (fun x y => .int .i8 (f x y)) 221 145
  bm : m ≠ b
  gb : ∀ y, y < n → g y ≠ b
  gm : ∀ y, y < n → g y ≠ m
  inj : ∀ y y', y < n → y' < n → g y = g y' → y = y'
theorem YM.keep {S : Nat → Prop} {w w' : World} {b m n : Nat} {g : Nat → Nat} {f : Nat → Nat → Int} (h : YM w b m n g f) (hk : Keeps S w w') (hb : ¬ S b) (hm : ¬ S m) (hg : ∀ y, y < n → ¬ S (g y)) : YM w' b m n g f :=
  ⟨h.head.keep hk hb, h.rows.keep hk hm hg, h.bm, h.gb, h.gm, h.inj⟩
theorem YM.congr {w : World} {b m n : Nat} {g : Nat → Nat} {f f' : Nat → Nat → Int} (h : YM w b m n g f) (e : ∀ x y, x < n → y < n → f x y = f' x y) : YM w b m n g f' :=
  ⟨h.head, h.rows.congr (fun x y hx hy => by rw [e x y hx hy]), h.bm, h.gb, h.gm, h.inj⟩
theorem YM.slot {w : World} {b m n : Nat} {g : Nat → Nat} {f : Nat → Nat → Int} (h : YM w b m n g f) {y : Nat} (hy : y < n) : w.cell? ⟨m, y, none⟩ = some (.slice (some ⟨g y, 0, none⟩) n n) := h.rows.slot hy (Nat.le_refl _)
theorem YM.dot {w : World} {b m n : Nat} {g : Nat → Nat} {f : Nat → Nat → Int} (h : YM w b m n g f) {x y : Nat} (hx : x < n) (hy : y < n) : w.cell? ⟨g y, x, none⟩ = some (.int .i8 (f x y)) := h.rows.dot hx hy
theorem YM.free {w : World} {b m n : Nat} {g : Nat → Nat} {f : Nat → Nat → Int} (h : YM w b m n g f) {y : Nat} (hy : y < n) (x : Nat) : w.frozen? ⟨g y, x, none⟩ = false := (h.rows.row y hy).free x
theorem YM.setDot {w : World} {b m n : Nat} {g : Nat → Nat} {f : Nat → Nat → Int} (h : YM w b m n g f) {x y : Nat} (hy : y < n) (v : Int) :
    YM (w.setCell ⟨g y, x, none⟩ (.int .i8 v)) b m n g (fun x' y' => if x' = x ∧ y' = y then v else f x' y') :=
  ⟨h.head.far (fun e => h.gb y hy e.symm) _, (h.rows.setDot h.gm h.inj hy _).congr (fun x' y' _ _ => by by_cases e : x' = x ∧ y' = y <;> simp [e]), h.bm, h.gb, h.gm, h.inj⟩
theorem YM.c0 {w : World} {b m n : Nat} {g : Nat → Nat} {f : Nat → Nat → Int} (h : YM w b m n g f) : w.cell? ⟨b, 0, none⟩ = some (.slice (some ⟨m, 0, none⟩) n n) := h.head.cell rfl
theorem YM.c1 {w : World} {b m n : Nat} {g : Nat → Nat} {f : Nat → Nat → Int} (h : YM w b m n g f) : w.cell? ⟨b, 1, none⟩ = some (.int .i64 (n : Int)) := h.head.cell rfl
theorem YM.c2 {w : World} {b m n : Nat} {g : Nat → Nat} {f : Nat → Nat → Int} (h : YM w b m n g f) : w.cell? ⟨b, 2, none⟩ = some (.int .i64 (n : Int)) := h.head.cell rfl

set_option maxRecDepth 100000 in
theorem ymW_ok (b m n : Nat) (g : Nat → Nat) (f : Nat → Nat → Int) (w : World) (h : YM w b m n g f) : Calls Tryz.prog 71 #[.pointer (some ⟨b, 0, none⟩)] w fun e w' => e = .returned (.int .i64 (n : Int)) ∧ w = w' := by
  have h0 := h.c1
  clear h
  go_enter Tryz.func71, Tryz.ntmps71
  go_wp2
  go_ret
  exact ⟨rfl, rfl⟩
set_option maxRecDepth 100000 in
theorem ymH_ok (b m n : Nat) (g : Nat → Nat) (f : Nat → Nat → Int) (w : World) (h : YM w b m n g f) : Calls Tryz.prog 72 #[.pointer (some ⟨b, 0, none⟩)] w fun e w' => e = .returned (.int .i64 (n : Int)) ∧ w = w' := by
  have h0 := h.c2
  clear h
  go_enter Tryz.func72, Tryz.ntmps72
  go_wp2
  go_ret
  exact ⟨rfl, rfl⟩
set_option maxRecDepth 100000 in
theorem ymArray_ok (b m n : Nat) (g : Nat → Nat) (f : Nat → Nat → Int) (w : World) (h : YM w b m n g f) : Calls Tryz.prog 179 #[.pointer (some ⟨b, 0, none⟩)] w fun e w' => e = .returned (.slice (some ⟨m, 0, none⟩) n n) ∧ w = w' := by
  have h0 := h.c0
  clear h
  go_enter Tryz.func179, Tryz.ntmps179
  go_wp2
  go_ret
  exact ⟨rfl, rfl⟩
set_option maxRecDepth 100000 in
set_option maxHeartbeats 400000 in
theorem ymGet_ok (b m n x y : Nat) (g : Nat → Nat) (f : Nat → Nat → Int) (w : World) (h : YM w b m n g f) (hx : x < n) (hy : y < n) (X Y : Int) (hX : X = (x : Int)) (hY : Y = (y : Int)) (v : Int) (hv : f x y = v) :
    Calls Tryz.prog 74 #[.pointer (some ⟨b, 0, none⟩), .int .i64 X, .int .i64 Y] w fun e w' => e = .returned (.int .i8 v) ∧ w = w' := by
  subst hX hY
  have h0 := h.c0
  have h1 := h.slot hy
  have h2 := h.dot hx hy
  rw [hv] at h2
  have hx' := Int.ofNat_lt.2 hx
  have hy' := Int.ofNat_lt.2 hy
  clear h hv
  generalize g y = gy at *
  go_enter Tryz.func74, Tryz.ntmps74
  go_wp2
  go_ret
  exact ⟨rfl, rfl⟩
set_option maxRecDepth 100000 in
set_option maxHeartbeats 400000 in
theorem ymSet_ok (b m n x y : Nat) (g : Nat → Nat) (f : Nat → Nat → Int) (w : World) (h : YM w b m n g f) (hx : x < n) (hy : y < n) (X Y : Int) (hX : X = (x : Int)) (hY : Y = (y : Int)) (v : Int) :
    Calls Tryz.prog 186 #[.pointer (some ⟨b, 0, none⟩), .int .i64 X, .int .i64 Y, .int .i8 v] w fun e w' => e = .returned (.tuple #[]) ∧ YM w' b m n g (fun x' y' => if x' = x ∧ y' = y then v else f x' y') ∧ Keeps (inRows g n) w w' := by
  subst hX hY
  have h0 := h.c0
  have h1 := h.slot hy
  have h2 := h.dot hx hy
  have h3 := h.free hy x
  have hs := h.setDot (x := x) hy v
  have hk : Keeps (inRows g n) w (w.setCell ⟨g y, x, none⟩ (.int .i8 v)) := (Keeps.refl _ w).setCell (Or.inl ⟨y, hy, rfl⟩) _
  have hx' := Int.ofNat_lt.2 hx
  have hy' := Int.ofNat_lt.2 hy
  have HS := Lib.hid (And.intro hs hk)
  clear h hs hk
  generalize g y = gy at h1 h2 h3 HS
  generalize f x y = u at h2
  go_enter Tryz.func186, Tryz.ntmps186
  go_wp2
  go_end0
  exact ⟨rfl, HS.out⟩
set_option maxRecDepth 100000 in
set_option maxHeartbeats 400000 in
theorem ymSetBool_ok (b m n x y : Nat) (g : Nat → Nat) (f : Nat → Nat → Int) (w : World) (h : YM w b m n g f) (hx : x < n) (hy : y < n) (X Y : Int) (hX : X = (x : Int)) (hY : Y = (y : Int)) (v : Bool) :
    Calls Tryz.prog 153 #[.pointer (some ⟨b, 0, none⟩), .int .i64 X, .int .i64 Y, .bool v] w fun e w' => e = .returned (.tuple #[]) ∧ YM w' b m n g (fun x' y' => if x' = x ∧ y' = y then (if v then 1 else 0) else f x' y') ∧ Keeps (inRows g n) w w' := by
  subst hX hY
  have h0 := h.c0
  have h1 := h.slot hy
  have h2 := h.dot hx hy
  have h3 := h.free hy x
  have hs := fun v => h.setDot (x := x) hy v
  have hk : ∀ v, Keeps (inRows g n) w (w.setCell ⟨g y, x, none⟩ (.int .i8 v)) := fun v => (Keeps.refl _ w).setCell (Or.inl ⟨y, hy, rfl⟩) _
  have hx' := Int.ofNat_lt.2 hx
  have hy' := Int.ofNat_lt.2 hy
  have HS := Lib.hid (And.intro hs hk)
  clear h hs hk
  generalize g y = gy at h1 h2 h3 HS
  generalize f x y = u at h2
  cases v
  · go_enter Tryz.func153, Tryz.ntmps153
    go_wp2
    go_end0
    exact ⟨rfl, by simpa using HS.out.1 0, HS.out.2 0⟩
  · go_enter Tryz.func153, Tryz.ntmps153
    go_wp2
    go_end0
    exact ⟨rfl, by simpa using HS.out.1 1, HS.out.2 1⟩

set_option maxRecDepth 100000 in
set_option maxHeartbeats 400000 in
theorem ymClear_ok (b m n : Nat) (g : Nat → Nat) (f : Nat → Nat → Int) (w : World) (h : YM w b m n g f) (v : Int) (hn : n ≤ 1000000) :
    Calls Tryz.prog 146 #[.pointer (some ⟨b, 0, none⟩), .int .i8 v] w fun e w' => e = .returned (.tuple #[]) ∧ YM w' b m n g (fun _ _ => v) ∧ Keeps (inRows g n) w w' := by
  have h0 := h.c0
  have HH := Lib.hid h
  clear h
  go_enter Tryz.func146, Tryz.ntmps146
  go_wp2_with fail
  clear h0
  go_loopw [11] (fun y wr => ∃ k : Nat, k ≤ n ∧ y = .int .i64 (k : Int) ∧ YM wr b m n g (fun x' y' => if y' < k then v else f x' y') ∧ Keeps (inRows g n) w wr) (fun y _ => n - (intOf y).toNat)
  case atStart => exact ⟨0, by omega, rfl, HH.out.congr (fun x y _ _ => by simp), Keeps.refl _ _⟩
  case round =>
    obtain ⟨k, k1, rfl, r1, r2⟩ := hrel
    have R1 := Lib.hid r1
    have R2 := Lib.hid r2
    by_cases hlt : k < n
    · have a0 := r1.c0
      have a1 := r1.slot hlt
      have hk' := Int.ofNat_lt.2 hlt
      clear r1 r2
      obtain ⟨gk, hgk⟩ : ∃ gk, g k = gk := ⟨_, rfl⟩
      rw [hgk] at a1
      have HG := Lib.hid hgk
      clear hgk
      go_wp2_with fail
      clear a0 a1
      go_loopw [22] (fun x wr => ∃ j : Nat, j ≤ n ∧ x = .int .i64 (j : Int) ∧ YM wr b m n g (fun x' y' => if y' < k then v else if y' = k ∧ x' < j then v else f x' y') ∧ Keeps (inRows g n) w wr) (fun x _ => n - (intOf x).toNat)
      case atStart => exact ⟨0, by omega, rfl, R1.out.congr (fun x y _ _ => by by_cases e : y < k <;> simp [e]), R2.out⟩
      case round =>
        obtain ⟨j, j1, rfl, s1, s2⟩ := hrel
        by_cases hj : j < n
        · have a0 := s1.c0
          have a1 := s1.slot hlt
          have a2 := s1.dot hj hlt
          have a3 := s1.free hlt j
          have hs := s1.setDot (x := j) hlt v
          have hkk := s2.setCell (p := ⟨g k, j, none⟩) (Or.inl ⟨k, hlt, rfl⟩) (.int .i8 v)
          have hj' := Int.ofNat_lt.2 hj
          have HS := Lib.hid (And.intro hs hkk)
          clear s1 s2 hs hkk
          rw [HG.out] at a1 a2 a3 HS
          simp only [if_neg (Nat.lt_irrefl k), if_neg (show ¬ (k = k ∧ j < j) by omega)] at a2
          generalize f j k = u at a2
          go_wp2
          go_roundw
          case rel =>
            refine ⟨j + 1, by omega, by go_num, HS.out.1.congr (fun x y _ _ => ?_), HS.out.2⟩
            by_cases e : x = j ∧ y = k
            · obtain ⟨rfl, rfl⟩ := e; simp
            · have h2 : (y = k ∧ x < j + 1) ↔ (y = k ∧ x < j) := by omega
              simp only [e, if_false, h2]
          case measure => simp [intOf]; omega
        · obtain rfl : j = n := by omega
          have HS := Lib.hid (And.intro s1 s2)
          clear s1 s2
          go_wp2
          go_roundw
          case rel =>
            refine ⟨k + 1, by omega, by go_num, HS.out.1.congr (fun x y hx _ => ?_), HS.out.2⟩
            by_cases e : y < k
            · simp [e, show y < k + 1 by omega]
            · by_cases e2 : y = k
              · simp [e2, hx]
              · simp [e, e2, show ¬ y < k + 1 by omega]
          case measure => simp [intOf]; omega
    · obtain rfl : k = n := by omega
      clear r1 r2
      go_wp2
      go_end0
      exact ⟨rfl, R1.out.congr (fun x y _ hy => by simp [hy]), R2.out⟩

end Go.Proofs.YtplpafbkalkchaaGreatDoor

namespace Go.Proofs.YtplpafbkalkchaaGreatDoor
open Go.RowKit

theorem info221 : (Tryz.prog.info? 221).map (fun i => (i.zero, i.size, i.bytes)) = some (some (.slice none 0 0), 1, 24) := by kernel_rfl
theorem info145 : (Tryz.prog.info? 145).map (fun i => (i.zero, i.size, i.bytes)) = some (some (.int .i8 0), 1, 1) := by kernel_rfl
theorem info57 : (Tryz.prog.info? 57).map (fun i => (i.zero, i.size, i.bytes)) = some (some (.slice none 0 0), 1, 24) := by kernel_rfl
theorem info4 : (Tryz.prog.info? 4).map (fun i => (i.zero, i.size, i.bytes)) = some (some (.bool false), 1, 1) := by kernel_rfl

/-- What the making of rows keeps. -/
structure Made (w wr : World) (m n k : Nat) (g : Nat → Nat) (F : Nat → Nat → Value) (t u : TypeId) (W : Nat) : Prop where
  rows : RowsK wr m W n k g F t u
  new : w.heap.size ≤ m
  gnew : ∀ y, y < k → m < g y
  inj : ∀ y y', y < k → y' < k → g y = g y' → y = y'
  keep : Keeps (fun _ => False) w wr
theorem Made.ltm {w wr : World} {m n k : Nat} {g : Nat → Nat} {F : Nat → Nat → Value} {t u : TypeId} {W : Nat} (h : Made w wr m n k g F t u W) : m < wr.heap.size := h.rows.top.lt
/-- One more row, fresh from make. -/
theorem Made.next {w wr : World} {m n k : Nat} {g : Nat → Nat} {F : Nat → Nat → Value} {t u : TypeId} {W : Nat} (h : Made w wr m n k g F t u W) (z : Value) (hz : ∀ x, F x k = z) :
    Made w ((wr.setCell ⟨m, k, none⟩ (.slice (some ⟨wr.heap.size, 0, none⟩) W W)).alloc (.cells (rep W z).toArray u)) m n (k + 1) (fun y => if y = k then wr.heap.size else g y) F t u W := by
  rw [← World.setCell_alloc_past _ m k _ h.ltm]
  have hr : RowsK (wr.alloc (.cells (rep W z).toArray u)) m W n k g F t u :=
    ⟨h.rows.top.alloc _, fun y hy => (h.rows.row y hy).alloc _⟩
  have hnew : FB (wr.alloc (.cells (rep W z).toArray u)) wr.heap.size W (fun x => F x k) u := (FB.new wr W z u).congr (fun x _ => (hz x).symm)
  have hm := h.ltm
  refine ⟨hr.addRow (fun y hy => by have := h.gnew y hy; omega) (by omega) hnew, h.new, fun y hy => ?_, fun y y' hy hy' e => ?_, (h.keep.alloc _).setCell (Or.inr h.new) _⟩
  · by_cases e : y = k
    · simp [e]; exact hm
    · simp [e]; exact h.gnew y (by omega)
  · have hlt : ∀ y, y < k → g y < wr.heap.size := fun y hy => (h.rows.row y hy).lt
    by_cases e1 : y = k <;> by_cases e2 : y' = k
    · omega
    · have := hlt y' (by omega); simp [e1, e2] at e; omega
    · have := hlt y (by omega); simp [e1, e2] at e; omega
    · simp [e1, e2] at e; exact h.inj y y' (by omega) (by omega) e

set_option maxRecDepth 100000 in
set_option maxHeartbeats 400000 in
theorem ymNew_ok (n : Nat) (w : World) (hn : n ≤ 1000000) (X Y : Int) (hX : X = (n : Int)) (hY : Y = (n : Int)) :
    Calls Tryz.prog 64 #[.int .i64 X, .int .i64 Y] w fun e w' => ∃ b m g, e = .returned (.pointer (some ⟨b, 0, none⟩)) ∧ YM w' b m n g (fun _ _ => 0) ∧ Keeps (fun _ => False) w w' ∧
      w.heap.size ≤ b ∧ w.heap.size ≤ m ∧ ∀ y, y < n → w.heap.size ≤ g y := by
  subst hX hY
  have hmk := make_rep (P := Tryz.prog) 220 221 (.slice none 0 0) 24 Tryz.underlying220 info221 rfl n (by omega) (by omega) w
  have hmk2 := fun w => make_rep (P := Tryz.prog) 221 145 (.int .i8 0) 1 Tryz.underlying221 info145 rfl n (by omega) (by omega) w
  have h0 : Made w (w.alloc (.cells (rep n (.slice none 0 0)).toArray 221)) w.heap.size n 0 (fun _ => 0) (fun _ _ => .int .i8 0) 221 145 n :=
    ⟨⟨(FB.new w n _ 221).congr (fun _ _ => by simp), fun y hy => by omega⟩, Nat.le_refl _, fun y hy => by omega, fun y y' hy => by omega, (Keeps.refl _ w).alloc _⟩
  have H0 := Lib.hid h0
  have HM := Lib.hid hmk2
  clear h0 hmk2
  generalize hC : w.heap.size = C at *
  have HC := Lib.hid hC
  clear hC
  go_enter Tryz.func64, Tryz.ntmps64
  go_wp2_with fail
  clear hmk
  go_loopw [6] (fun y wr => ∃ k g, k ≤ n ∧ y = .int .i64 ((k : Nat) : Int) ∧ Made w wr C n k g (fun _ _ => .int .i8 0) 221 145 n) (fun y _ => n - (intOf y).toNat)
  case atStart => exact ⟨0, _, by omega, rfl, H0.out⟩
  case round =>
    obtain ⟨k, g, k1, rfl, r1⟩ := hrel
    have R1 := Lib.hid r1
    by_cases hlt : k < n
    · have hmk2 := HM.out wr
      have hf := r1.rows.top.free k
      have hc : wr.cell? ⟨C, k, none⟩ = some (.slice none 0 0) := r1.rows.top.cellv hlt (by simp)
      have hk' := Int.ofNat_lt.2 hlt
      have hlm := r1.ltm
      have HN := Lib.hid (r1.next (.int .i8 0) (fun _ => rfl))
      clear r1
      go_wp2
      go_roundw
      case rel => exact ⟨k + 1, _, by omega, by go_num, HN.out⟩
      case measure => simp [intOf]; omega
    · obtain rfl : k = n := by omega
      have hb := Blk.new wr [.slice (some ⟨C, 0, none⟩) k k, .int .i64 (k : Int), .int .i64 (k : Int)] 223
      have HF := Lib.hid (show YM (wr.alloc (.cells #[.slice (some ⟨C, 0, none⟩) k k, .int .i64 (k : Int), .int .i64 (k : Int)] 223)) wr.heap.size C k g (fun _ _ => 0) from
        ⟨hb, ⟨r1.rows.top.alloc _, fun y hy => (r1.rows.row y hy).alloc _⟩, by have := r1.ltm; omega, fun y hy => by have := (r1.rows.row y hy).lt; omega, fun y hy => by have := r1.gnew y hy; omega, r1.inj⟩)
      have HK := Lib.hid (r1.keep.alloc (.cells #[.slice (some ⟨C, 0, none⟩) k k, .int .i64 (k : Int), .int .i64 (k : Int)] 223))
      clear r1 hb
      go_wp2
      go_ret
      exact ⟨_, C, g, rfl, HF.out, HK.out, HC.out ▸ R1.out.keep.size, Nat.le_refl _, fun y hy => Nat.le_of_lt (R1.out.gnew y hy)⟩

end Go.Proofs.YtplpafbkalkchaaGreatDoor

namespace Go.Proofs.YtplpafbkalkchaaGreatDoor
open Go.RowKit

theorem Made.dot {w wr : World} {m n k : Nat} {g : Nat → Nat} {F : Nat → Nat → Value} {t u : TypeId} {W : Nat} (h : Made w wr m n k g F t u W) {x y : Nat} (hy : y < k) (v : Value) :
    Made w (wr.setCell ⟨g y, x, none⟩ v) m n k g (fun x' y' => if x' = x ∧ y' = y then v else F x' y') t u W :=
  ⟨h.rows.setDot (fun y hy => by have := h.gnew y hy; omega) h.inj hy v, h.new, h.gnew, h.inj, h.keep.setCell (Or.inr (Nat.le_trans h.new (Nat.le_of_lt (h.gnew y hy)))) _⟩
theorem Made.congr {w wr : World} {m n k : Nat} {g : Nat → Nat} {F G : Nat → Nat → Value} {t u : TypeId} {W : Nat} (h : Made w wr m n k g F t u W) (e : ∀ x y, x < W → y < k → F x y = G x y) : Made w wr m n k g G t u W :=
  ⟨h.rows.congr e, h.new, h.gnew, h.inj, h.keep⟩
theorem Made.drew {w wr : World} {m n k : Nat} {g : Nat → Nat} {F : Nat → Nat → Value} {t u : TypeId} {W : Nat} (h : Made w wr m n k g F t u W) : Made w wr.drew m n k g F t u W :=
  ⟨⟨h.rows.top.drew, fun y hy => (h.rows.row y hy).drew⟩, h.new, h.gnew, h.inj, h.keep.drew⟩

theorem BM.drew {w : World} {b c W H : Nat} {f : Nat → Nat → Bool} (h : BM w b c W H f) : BM w.drew b c W H f := h

set_option maxRecDepth 100000 in
set_option maxHeartbeats 400000 in
theorem rowsOf_ok (b c W H : Nat) (f : Nat → Nat → Bool) (w : World) (h : BM w b c W H f) (hW : W ≤ 1000000) (hH : H ≤ 1000000) :
    Calls Tryz.prog 15 #[.pointer (some ⟨b, 0, none⟩)] w fun e w' => ∃ m g, e = .returned (.slice (some ⟨m, 0, none⟩) H H) ∧ Made w w' m H H g (fun x y => .bool (f x y)) 57 4 W := by
  have hmk := make_rep (P := Tryz.prog) 27 57 (.slice none 0 0) 24 Tryz.underlying27 info57 rfl H (by omega) (by omega) w
  have hmk2 := fun w => make_rep (P := Tryz.prog) 57 4 (.bool false) 1 Tryz.underlying57 info4 rfl W (by omega) (by omega) w
  have h0 : Made w (w.alloc (.cells (rep H (.slice none 0 0)).toArray 57)) w.heap.size H 0 (fun _ => 0) (fun x y => .bool (if y < 0 then f x y else false)) 57 4 W :=
    ⟨⟨(FB.new w H _ 57).congr (fun _ _ => by simp), fun y hy => by omega⟩, Nat.le_refl _, fun y hy => by omega, fun y y' hy => by omega, (Keeps.refl _ w).alloc _⟩
  have H0 := Lib.hid h0
  have HM := Lib.hid hmk2
  have HB := Lib.hid h
  clear h0 hmk2 h
  generalize hC : w.heap.size = C at *
  have HC := Lib.hid hC
  clear hC
  go_enter Tryz.func15, Tryz.ntmps15
  go_wp2_with (go_at_call 26; refine (height_ok b c W H f w HB.out).mono ?_; rintro e w' ⟨rfl, rfl⟩)
  clear hmk
  go_loopw [11] (fun y wr => ∃ k g, k ≤ H ∧ y = .int .i64 ((k : Nat) : Int) ∧ Made w wr C H k g (fun x y => .bool (if y < k then f x y else false)) 57 4 W) (fun y _ => H - (intOf y).toNat)
  case atStart => exact ⟨0, _, by omega, rfl, H0.out⟩
  case round =>
    obtain ⟨k, g, k1, rfl, r1⟩ := hrel
    have R1 := Lib.hid r1
    by_cases hlt : k < H
    · have hmk2 := HM.out wr
      have hf := r1.rows.top.free k
      have hc : wr.cell? ⟨C, k, none⟩ = some (.slice none 0 0) := r1.rows.top.cellv hlt (by simp)
      have hk' := Int.ofNat_lt.2 hlt
      have hlm := r1.ltm
      have HBr := Lib.hid (HB.out.keep r1.keep (fun h => h) (fun h => h))
      have HN := Lib.hid ((r1.congr (G := fun x y => .bool (if y < k then f x y else false)) (fun x y _ _ => rfl)).next (.bool false) (fun _ => by simp))
      have hnk : (fun y => if y = k then wr.heap.size else g y) k = wr.heap.size := by simp
      clear r1
      go_wp2_with (go_at_call 27; refine (width_ok b c W H f wr HBr.out).mono ?_; rintro e w' ⟨rfl, rfl⟩)
      clear hc hf hmk2 hlm
      go_loopw [25] (fun x w2 => ∃ j : Nat, j ≤ W ∧ x = .int .i64 (j : Int) ∧ Made w w2 C H (k + 1) (fun y => if y = k then wr.heap.size else g y) (fun x' y' => .bool (if y' < k then f x' y' else if y' = k ∧ x' < j then f x' y' else false)) 57 4 W) (fun x _ => W - (intOf x).toNat)
      case atStart => exact ⟨0, by omega, rfl, HN.out.congr (fun x y _ _ => by by_cases e : y < k <;> simp [e])⟩
      case round =>
        obtain ⟨j, j1, rfl, s1⟩ := hrel
        have S1 := Lib.hid s1
        by_cases hj : j < W
        · have a1 := s1.rows.slot (y := k) (by omega) (by omega)
          have a2 := s1.rows.dot (x := j) (y := k) hj (by omega)
          have a3 := (s1.rows.row k (by omega)).free j
          simp only [if_pos] at a1 a2 a3
          have hB2 := Lib.hid (HB.out.keep s1.keep (fun h => h) (fun h => h))
          have hn2 := s1.dot (x := j) (y := k) (by omega) (.bool (f j k))
          simp only [if_pos] at hn2
          have HN2 := Lib.hid hn2
          have hj' := Int.ofNat_lt.2 hj
          clear s1 hn2
          generalize wr.heap.size = gk at *
          go_wp2_with fail
          go_region_with (go_at_call 28; refine (bmGet_ok b c W H j k f _ hB2.out.drew hj hlt hW hH _ _ rfl rfl _ rfl).mono ?_; rintro e w' ⟨rfl, rfl⟩)
          all_goals go_wp2
          all_goals
            go_roundw
            case rel =>
              refine ⟨j + 1, by omega, by go_num, (HN2.out.congr (fun x y _ _ => ?_)).drew⟩
              by_cases e : x = j ∧ y = k
              · obtain ⟨rfl, rfl⟩ := e; simp
              · have h2 : (y = k ∧ x < j + 1) ↔ (y = k ∧ x < j) := by omega
                simp only [e, if_false, h2]
            case measure => simp [intOf]; omega
        · obtain rfl : j = W := by omega
          clear s1
          go_wp2
          go_roundw
          case rel =>
            refine ⟨k + 1, _, by omega, by go_num, S1.out.congr (fun x y hx _ => ?_)⟩
            by_cases e : y < k
            · simp [e, show y < k + 1 by omega]
            · by_cases e2 : y = k
              · simp [e2, hx]
              · simp [e, e2, show ¬ y < k + 1 by omega]
          case measure => simp [intOf]; omega
    · obtain rfl : k = H := by omega
      clear r1
      go_wp2
      go_ret
      exact ⟨C, g, rfl, R1.out.congr (fun x y _ hy => by simp [hy])⟩

set_option maxRecDepth 100000 in
set_option maxHeartbeats 400000 in
theorem taken_ok (b c W H : Nat) (f : Nat → Nat → Bool) (w : World) (h : BM w b c W H f) (hW : W ≤ 1000000) (hH : H ≤ 1000000) :
    Calls Tryz.prog 17 #[.pointer (some ⟨b, 0, none⟩), .nilIface] w fun e w' => ∃ m g, e = .returned (.tuple #[.slice (some ⟨m, 0, none⟩) H H, .bool true]) ∧ Made w w' m H H g (fun x y => .bool (f x y)) 57 4 W := by
  have HB := Lib.hid h
  clear h
  go_enter Tryz.func17, Tryz.ntmps17
  go_wp2_with fail
  refine (rowsOf_ok b c W H f w HB.out hW hH).mono ?_
  rintro e w1 ⟨m, g, rfl, h1⟩
  have H1 := Lib.hid h1
  clear h1
  go_wp2
  go_ret2
  exact ⟨m, g, rfl, H1.out⟩

end Go.Proofs.YtplpafbkalkchaaGreatDoor
