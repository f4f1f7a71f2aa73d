/- qrAscii: at most 300 bytes; A block of rows' slices: made, filled; Rows of bools of any width: made, filled, told; The view of a symbol: frame, tones, picture; BitMatrix: a rectangle of bits; BitMatrix: the first bit and the last bit that are on. -/
import Derived.Test.YtcekbhhpcmhicaaGreatDoorM02
import Derived.Test.YtcekbhhpcmhicaaGreatDoorM05
import Derived.Test.YtcekbhhpcmhicaaGreatDoorM22
import Derived.Test.YtcekbhhpcmhicaaGreatDoorM32
import Derived.Test.YtcekbhhpcmhicaaGreatDoorM34
namespace Go.Proofs.YtcekbhhpcmhicaaGreatDoor
open Go.RowKit Go.QW Go.QGF Go.QI Go.QM Go.QV Go.QZ
section
variable {w : World}
def AscT (w : World) (e : Ending) (w' : World) : Prop := ∃ so : ByteArray, e = .returned (.string so) ∧ 1 ≤ so.size ∧ so.size ≤ 300 ∧ Below w.heap.size w w'
set_option maxHeartbeats 8000000 in
set_option maxRecDepth 100000 in
theorem qrascii3_any (s : ByteArray) (kd : Nat) (hs : s.size ≤ 2147483647) (hkd : kd < 256) : Calls Tryz.prog 5 #[.string s, .int .u8 kd, .int .i64 300] w (AscT w) := by
  obtain ⟨k3, hk3⟩ : ∃ k3, k3 = kd % 3 := ⟨_, rfl⟩
  have hk3l : k3 < 3 := by omega
  have hmod : (kd : Int) % 3 = (k3 : Int) := by omega
  clear hk3
  go_enter Tryz.func5, Tryz.ntmps5
  go_wp2_with fail
  go_loopw [7, 8] (fun t7 t8 wr => ∃ (i : Nat) (v : Value) (so : ByteArray), v = t7 ∧ i ≤ s.size ∧ i ≤ 300 ∧ t8 = .int .i64 (i : Nat) ∧ AscS w wr i v so) (fun _ t8 _ => s.size - (intOf t8).toNat)
  case atStart => exact ⟨0, _, ⟨#[]⟩, rfl, by omega, by omega, rfl, ⟨⟨rfl, .inl ⟨rfl, rfl⟩⟩, rfl, Below.refl _ _, fun k hk => by simp [Value.ownBlock] at hk⟩⟩
  case round =>
    obtain ⟨W0, rfl⟩ : ∃ W, W = wr := ⟨_, rfl⟩
    obtain ⟨i, v, so, rfl, hi, hi6, rfl, hS⟩ := hrel
    by_cases hlt : i < s.size ∧ i < 300
    · obtain ⟨hl1, hl2⟩ := hlt
      have hd1 : decide (i < s.size) = true := by simp; omega
      have hd2 : decide ((i : Int) < 300) = true := by simp; omega
      have hcl : (s[i]).toNat < 256 := UInt8.toNat_lt _
      obtain ⟨c, hc⟩ : ∃ c : Nat, c = (s[i]).toNat := ⟨_, rfl⟩
      have hcc : (((s[i]).toNat : Nat) : Int) = (c : Int) := by rw [hc]
      have hc256 : c < 256 := by omega
      clear hc hcl
      match k3, hk3l with
      | 0, _ =>
        obtain ⟨x, hx⟩ : ∃ x : Nat, x = 48 + c % 10 := ⟨_, rfl⟩
        have hxx : 48 + (c : Int) % 10 = (x : Int) := by omega
        have hx256 : x < 256 := by omega
        clear hx
        have HOWN := Lib.hid hS.own
        have HS := Lib.hid hS
        clear hS
        go_wp2_with (first
          | (at_builtin; refine wpList_append1 (.tmp 32) (.tmp 38) (t := 30) Tryz.underlying30 (e := 5) (z := .int .u8 0) (b := 1) (by kernel_rfl) rfl rfl rfl (by decide) (v := v) (n := i) (xs := (bytesOf so).map U8) rfl (HOWN.out.alloc _) (ad := ⟨W0.heap.size, 0, none⟩) (c := 1) (u := U8 x) rfl ((Blk.new W0 _ _).cell 0) rfl (by omega) ?_; intro v1 W1 hown1 hk1 hv1))
        have hst := HS.out.app (x := x) (by omega) hown1 hk1 hv1
        clear hown1 hk1 hv1
        go_roundw
        case rel => exact ⟨i + 1, v1, _, rfl, by omega, by omega, by go_num, hst⟩
        case measure => simp [intOf]; omega
      | 1, _ =>
        have HOWN := Lib.hid hS.own
        have HS := Lib.hid hS
        clear hS
        go_wp2_with fail
        refine (qralphab_any _).mono ?_
        rintro e w2' ⟨x, hx256, rfl, rfl⟩
        go_wp2_with (first
          | (at_builtin; refine wpList_append1 (.tmp 42) (.tmp 49) (t := 30) Tryz.underlying30 (e := 5) (z := .int .u8 0) (b := 1) (by kernel_rfl) rfl rfl rfl (by decide) (v := v) (n := i) (xs := (bytesOf so).map U8) rfl (HOWN.out.alloc _) (ad := ⟨W0.heap.size, 0, none⟩) (c := 1) (u := U8 x) rfl ((Blk.new W0 _ _).cell 0) rfl (by omega) ?_; intro v1 W1 hown1 hk1 hv1))
        have hst := HS.out.app (x := x) (by omega) hown1 hk1 hv1
        clear hown1 hk1 hv1
        go_roundw
        case rel => exact ⟨i + 1, v1, _, rfl, by omega, by omega, by go_num, hst⟩
        case measure => simp [intOf]; omega
      | 2, _ =>
        obtain ⟨x, hx⟩ : ∃ x : Nat, x = 32 + c % 95 := ⟨_, rfl⟩
        have hxx : 32 + (c : Int) % 95 = (x : Int) := by omega
        have hx256 : x < 256 := by omega
        clear hx
        have HOWN := Lib.hid hS.own
        have HS := Lib.hid hS
        clear hS
        go_wp2_with (first
          | (at_builtin; refine wpList_append1 (.tmp 22) (.tmp 28) (t := 30) Tryz.underlying30 (e := 5) (z := .int .u8 0) (b := 1) (by kernel_rfl) rfl rfl rfl (by decide) (v := v) (n := i) (xs := (bytesOf so).map U8) rfl (HOWN.out.alloc _) (ad := ⟨W0.heap.size, 0, none⟩) (c := 1) (u := U8 x) rfl ((Blk.new W0 _ _).cell 0) rfl (by omega) ?_; intro v1 W1 hown1 hk1 hv1))
        have hst := HS.out.app (x := x) (by omega) hown1 hk1 hv1
        clear hown1 hk1 hv1
        go_roundw
        case rel => exact ⟨i + 1, v1, _, rfl, by omega, by omega, by go_num, hst⟩
        case measure => simp [intOf]; omega
    · have hdd : (decide (i < s.size) = false) ∨ (decide (i < s.size) = true ∧ decide ((i : Int) < 300) = false) := by
        rcases Nat.lt_or_ge i s.size with h | h
        · exact .inr ⟨by simp; omega, by simp; omega⟩
        · exact .inl (by simp; omega)
      have hown := hS.own
      have hsz := hS.size
      have hbl := hS.below
      by_cases h0 : i = 0
      · subst h0
        have hv0 : v = .slice none 0 0 ∨ ∃ b c, v = .slice (some ⟨b, 0, none⟩) 0 c := by
          rcases hown.2 with ⟨h, -⟩ | ⟨g, cap, cur, h, -⟩
          · exact .inl h
          · exact .inr ⟨g, cap, h⟩
        have HX := Lib.hid hbl
        clear hS hown hsz hbl hlt
        rcases hdd with hd1 | ⟨hd1, hd2⟩
        · rcases hv0 with rfl | ⟨b, c, rfl⟩
          · go_wp2_with fail
            go_ret
            exact ⟨⟨#[55]⟩, rfl, by decide, by decide, HX.out⟩
          · go_wp2_with fail
            go_ret
            exact ⟨⟨#[55]⟩, rfl, by decide, by decide, HX.out⟩
        · exact absurd hd2 (by simp)
      · have hown' : W0.ownsRow 0 5 1 v (bytesOf so).length ((bytesOf so).map U8) := by rw [bytesOf_length, hsz]; exact hown
        obtain ⟨b, c, hv, hcv⟩ := conv_own hown' (by omega)
        have hcv0 : (convert 30 9 (.slice (some ⟨b, 0, none⟩) i c)).run Tryz.prog W0 = .ok (.string so) W0 := by rw [← hsz]; exact hcv 0
        rw [hsz] at hv
        subst hv
        have hi0 : ((i : Int) == 0) = false := by rw [beq_eq_false_iff_ne]; omega
        have HX := Lib.hid (And.intro hbl hsz)
        clear hS hown hown' hsz hbl hlt hcv
        rcases hdd with hd1 | ⟨hd1, hd2⟩
        · go_wp2_with fail
          go_ret
          exact ⟨so, rfl, by rw [HX.out.2]; omega, by rw [HX.out.2]; omega, HX.out.1⟩
        · go_wp2_with fail
          go_ret
          exact ⟨so, rfl, by rw [HX.out.2]; omega, by rw [HX.out.2]; omega, HX.out.1⟩
end
end Go.Proofs.YtcekbhhpcmhicaaGreatDoor
namespace Go.Proofs.YtcekbhhpcmhicaaGreatDoor
open Go.RowKit Go.QW Go.QGF
/-- the cells of the block of rows, some of them made -/
def rowsV (H W : Nat) (rs : List Nat) : Array Value := ((List.range H).map fun y => if y < rs.length then Value.slice (some ⟨nth rs y, 0, none⟩) W W else .slice none 0 0).toArray
theorem rowsV_get {H W y : Nat} {rs : List Nat} (h : y < H) : (rowsV H W rs)[y]? = some (if y < rs.length then Value.slice (some ⟨nth rs y, 0, none⟩) W W else .slice none 0 0) := by
  unfold rowsV
  rw [List.getElem?_toArray, List.getElem?_map, List.getElem?_range h]; rfl
theorem rowsV_set {H W i : Nat} {rs : List Nat} (g : Nat) (hi : rs.length = i) : (rowsV H W rs).setIfInBounds i (.slice (some ⟨g, 0, none⟩) W W) = rowsV H W (rs ++ [g]) := by
  subst hi
  apply Array.ext_getElem?
  intro j
  rw [Array.getElem?_setIfInBounds]
  have hsz : (rowsV H W rs).size = H := by simp [rowsV]
  by_cases hj : j < H
  · rw [rowsV_get hj, rowsV_get hj, hsz, List.length_append, List.length_singleton]
    by_cases e : rs.length = j
    · subst e
      rw [if_pos rfl, if_pos hj, if_pos (by omega)]
      have := nth_append_right (l := rs) (m := [g]) (i := 0)
      rw [Nat.add_zero] at this
      rw [this]; rfl
    · rw [if_neg e]
      by_cases h2 : j < rs.length
      · rw [if_pos h2, if_pos (by omega), nth_append_left h2]
      · rw [if_neg h2, if_neg (by omega)]
  · have h1 : ∀ l, (rowsV H W l)[j]? = none := fun l => Array.getElem?_eq_none (by simp [rowsV]; omega)
    rw [h1, h1, hsz]
    by_cases e : rs.length = j
    · rw [if_pos e, if_neg (by omega)]
    · rw [if_neg e]
theorem rep_nil (H W : Nat) : madeCells (Value.slice none 0 0).cells H = rowsV H W [] := by
  unfold madeCells rowsV
  apply Array.ext
  · simp
  · intro i h1 h2
    simp [Value.cells, Nat.mod_one]
theorem make_rows {P : Program} {t e : TypeId} (W : Nat) (ht : P.underlying t = some (.slice e)) (hi : (P.info? e).map (fun i => (i.zero, i.size, i.bytes)) = some (some (.slice none 0 0), 1, 24))
    (n : Nat) (x : Int) (hx : x = n) (hn : n ≤ 10000000) (w : World) :
    (Instr.makeSlice t (.int .i64 x) (.int .i64 x)).run P w = .ok (.slice (some ⟨w.heap.size, 0, none⟩) n n) (w.alloc (.cells (rowsV n W []) e)) := by
  subst hx
  obtain ⟨i, hi1, hz, hs, hb'⟩ := info_parts hi
  have := run_make (P := P) w t e i _ ht hi1 hz .i64 .i64 n n (by omega) (by omega) (by rw [hb']; omega) (by omega)
  rw [this, hs, Int.toNat_natCast, Nat.mul_one, rep_nil n W]
end Go.Proofs.YtcekbhhpcmhicaaGreatDoor
namespace Go.Proofs.YtcekbhhpcmhicaaGreatDoor
open Go.RowKit Go.QW Go.QGF Go.QI Go.QM Go.QV Go.QZ
/-- H rows of W bools; block hb holds the rows' slices -/
def RM (w : World) (hb H W : Nat) (F : Nat → Nat → Bool) : Prop := hb < w.heap.size ∧ ∀ y, y < H → ∃ gy, w.cell? ⟨hb, y, none⟩ = some (.slice (some ⟨gy, 0, none⟩) W W) ∧ Blk w gy 4 (bools W (F y))
theorem RM.below {w w' : World} {hb H W : Nat} {F : Nat → Nat → Bool} (h : RM w hb H W F) (hbl : Below w.heap.size w w') : RM w' hb H W F := by
  refine ⟨Nat.lt_of_lt_of_le h.1 hbl.size, fun y hy => ?_⟩
  obtain ⟨gy, h1, h2⟩ := h.2 y hy
  exact ⟨gy, (hbl.cell (p := ⟨hb, y, none⟩) h.1).trans h1, h2.below hbl h2.lt⟩
theorem make_bools' {P : Program} {t e : TypeId} (ht : P.underlying t = some (.slice e)) (hi : (P.info? e).map (fun i => (i.zero, i.size, i.bytes)) = some (some (.bool false), 1, 1))
    (n : Nat) (x : Int) (hx : x = n) (hn : n ≤ 1000000000) (w : World) :
    (Instr.makeSlice t (.int .i64 x) (.int .i64 x)).run P w = .ok (.slice (some ⟨w.heap.size, 0, none⟩) n n) (w.alloc (.cells (bools n (fun _ => false)) e)) := by
  subst hx
  exact make_bools ht hi n hn w
/-- the first i of H rows are made and filled -/
structure RMk (w : World) (hb H W i : Nat) (rs : List Nat) (F : Nat → Nat → Bool) : Prop where
  len : rs.length = i
  hd : Blk w hb 42 (rowsV H W rs)
  row : ∀ j, j < i → Blk w (nth rs j) 4 (bools W (F j))
theorem RMk.rm {w : World} {hb H W : Nat} {rs : List Nat} {F : Nat → Nat → Bool} (h : RMk w hb H W H rs F) : RM w hb H W F := by
  refine ⟨h.hd.lt, fun y hy => ⟨nth rs y, ?_, h.row y hy⟩⟩
  rw [h.hd.cell y, rowsV_get hy, if_pos (by rw [h.len]; exact hy)]
theorem RMk.kp {w w' : World} {hb H W i : Nat} {S : List Nat} {rs : List Nat} {F : Nat → Nat → Bool} (h : RMk w hb H W i rs F) (hk : Kp S w w') (h1 : hb ∉ S) (h2 : ∀ j, j < i → nth rs j ∉ S) : RMk w' hb H W i rs F :=
  ⟨h.len, h.hd.kp hk h1, fun j hj => (h.row j hj).kp hk (h2 j hj)⟩
theorem RMk.fresh {w w' : World} {hb H W i G : Nat} {rs : List Nat} {F : Nat → Nat → Bool} (h : RMk w hb H W i rs F) (hk : Kp [G] w w') (hG : w.heap.size ≤ G) : RMk w' hb H W i rs F :=
  h.kp hk (by simp; have := h.hd.lt; omega) (fun j hj => by simp; have := (h.row j hj).lt; omega)
/-- the next row's slice is stored -/
theorem RMk.store {w : World} {hb H W i G : Nat} {rs : List Nat} {F : Nat → Nat → Bool} (h : RMk w hb H W i rs F) :
    Blk (w.setCell ⟨hb, i, none⟩ (.slice (some ⟨G, 0, none⟩) W W)) hb 42 (rowsV H W (rs ++ [G])) ∧ ∀ j, j < i → Blk (w.setCell ⟨hb, i, none⟩ (.slice (some ⟨G, 0, none⟩) W W)) (nth (rs ++ [G]) j) 4 (bools W (F j)) := by
  refine ⟨?_, fun j hj => ?_⟩
  · have := h.hd.set_ i (.slice (some ⟨G, 0, none⟩) W W)
    rw [rowsV_set G h.len] at this
    exact this
  · rw [nth_append_left (by rw [h.len]; exact hj)]
    exact (h.row j hj).far ((h.row j hj).ne_ h.hd (by decide)) _
theorem RMk.next {w : World} {hb H W i G : Nat} {rs : List Nat} {F : Nat → Nat → Bool} (hl : rs.length = i) (h1 : Blk w hb 42 (rowsV H W (rs ++ [G]))) (h2 : ∀ j, j < i → Blk w (nth (rs ++ [G]) j) 4 (bools W (F j))) (h3 : Blk w G 4 (bools W (F i))) : RMk w hb H W (i + 1) (rs ++ [G]) F := by
  refine ⟨by rw [List.length_append, hl]; rfl, h1, fun j hj => ?_⟩
  by_cases e : j = i
  · subst e
    have := nth_append_right (l := rs) (m := [G]) (i := 0)
    rw [hl, Nat.add_zero] at this
    rw [this]
    exact h3
  · exact h2 j (by omega)
end Go.Proofs.YtcekbhhpcmhicaaGreatDoor
namespace Go.Proofs.YtcekbhhpcmhicaaGreatDoor
open Go.RowKit Go.QW Go.QGF Go.QI Go.QM Go.QV Go.QZ Go.QP
/-- a view, by its numbers -/
def vw (sc b0 b1 b2 b3 dk lt : Nat) (pt : Bool) : Value := .agg #[.int .u8 sc, .int .u8 b0, .int .u8 b1, .int .u8 b2, .int .u8 b3, .int .u8 dk, .int .u8 lt, .bool pt]
section
variable {w : World}
def FrameB (s L T R B : Nat) (w : World) (e : Ending) (w' : World) : Prop := e = .returned (.agg #[.int .i64 s, .int .i64 L, .int .i64 T, .int .i64 R, .int .i64 B]) ∧ Below w.heap.size w w'
set_option maxHeartbeats 4000000 in
set_option maxRecDepth 100000 in
theorem frame_any (sc b0 b1 b2 b3 dk lt : Nat) (pt : Bool) (hs : sc < 256) (h0 : b0 < 256) (h1 : b1 < 256) (h2 : b2 < 256) (h3 : b3 < 256) :
    Calls Tryz.prog 34 #[.agg #[.int .u8 sc, .int .u8 b0, .int .u8 b1, .int .u8 b2, .int .u8 b3, .int .u8 dk, .int .u8 lt, .bool pt]] w (FrameB (1 + sc % 6) (1 + b0 % 100) (1 + b1 % 100) (1 + b2 % 100) (1 + b3 % 100) w) := by
  have i0 : ∀ w, (Instr.index 38 (.agg #[.int .u8 b0, .int .u8 b1, .int .u8 b2, .int .u8 b3]) (.int .i64 0)).run Tryz.prog w = .ok (.int .u8 b0) w := fun _ => by kernel_rfl
  have i1 : ∀ w, (Instr.index 38 (.agg #[.int .u8 b0, .int .u8 b1, .int .u8 b2, .int .u8 b3]) (.int .i64 1)).run Tryz.prog w = .ok (.int .u8 b1) w := fun _ => by kernel_rfl
  have i2 : ∀ w, (Instr.index 38 (.agg #[.int .u8 b0, .int .u8 b1, .int .u8 b2, .int .u8 b3]) (.int .i64 2)).run Tryz.prog w = .ok (.int .u8 b2) w := fun _ => by kernel_rfl
  have i3 : ∀ w, (Instr.index 38 (.agg #[.int .u8 b0, .int .u8 b1, .int .u8 b2, .int .u8 b3]) (.int .i64 3)).run Tryz.prog w = .ok (.int .u8 b3) w := fun _ => by kernel_rfl
  go_enter Tryz.func34, Tryz.ntmps34
  go_wp2_with fail
  refine wp_loop_rounds 5 ?_
  rw [rounds_succ]
  go_wp2_with fail
  rw [rounds_succ]
  go_wp2_with fail
  rw [rounds_succ]
  go_wp2_with fail
  rw [rounds_succ]
  go_wp2_with fail
  rw [rounds_succ]
  go_wp2_with fail
  have c0 : (1 : Int) + (sc : Int) % 6 = ((1 + sc % 6 : Nat) : Int) := by omega
  have c1 : (1 : Int) + (b0 : Int) % 100 = ((1 + b0 % 100 : Nat) : Int) := by omega
  have c2 : (1 : Int) + (b1 : Int) % 100 = ((1 + b1 % 100 : Nat) : Int) := by omega
  have c3 : (1 : Int) + (b2 : Int) % 100 = ((1 + b2 % 100 : Nat) : Int) := by omega
  have c4 : (1 : Int) + (b3 : Int) % 100 = ((1 + b3 % 100 : Nat) : Int) := by omega
  rw [c0, c1, c2, c3, c4]
  obtain ⟨s, hs⟩ : ∃ s, s = 1 + sc % 6 := ⟨_, rfl⟩
  obtain ⟨L, hL⟩ : ∃ L, L = 1 + b0 % 100 := ⟨_, rfl⟩
  obtain ⟨T, hT⟩ : ∃ T, T = 1 + b1 % 100 := ⟨_, rfl⟩
  obtain ⟨R, hR⟩ : ∃ R, R = 1 + b2 % 100 := ⟨_, rfl⟩
  obtain ⟨B, hB⟩ : ∃ B, B = 1 + b3 % 100 := ⟨_, rfl⟩
  rw [← hs, ← hL, ← hT, ← hR, ← hB]
  clear c0 c1 c2 c3 c4 hs hL hT hR hB i0 i1 i2 i3
  obtain ⟨o1, ho1⟩ : ∃ o, o = Obj.cells #[.int .u8 sc, .int .u8 b0, .int .u8 b1, .int .u8 b2, .int .u8 b3, .int .u8 dk, .int .u8 lt, .bool pt] 40 := ⟨_, rfl⟩
  rw [← ho1]
  have hD := (Blk.new (w.alloc o1) 84 #[.int .i64 s, .int .i64 L, .int .i64 T, .int .i64 R, .int .i64 B]).alloc (.cells #[.int .i64 L, .int .i64 T, .int .i64 R, .int .i64 B] 164)
  rw [World.size_alloc] at hD
  have hbl : Below w.heap.size w (((w.alloc o1).alloc (.cells #[.int .i64 s, .int .i64 L, .int .i64 T, .int .i64 R, .int .i64 B] 84)).alloc (.cells #[.int .i64 L, .int .i64 T, .int .i64 R, .int .i64 B] 164)) := (((Below.refl _ _).alloc (Nat.le_refl _) _).alloc (by simp) _).alloc (by simp; omega) _
  obtain ⟨w3, hw3⟩ : ∃ w3, w3 = ((w.alloc o1).alloc (.cells #[.int .i64 s, .int .i64 L, .int .i64 T, .int .i64 R, .int .i64 B] 84)).alloc (.cells #[.int .i64 L, .int .i64 T, .int .i64 R, .int .i64 B] 164) := ⟨_, rfl⟩
  rw [← hw3] at hD hbl ⊢
  clear hw3
  have e0 : w3.cell? ⟨w.heap.size + 1, 0, none⟩ = some (.int .i64 s) := hD.cell 0
  have e1 : w3.cell? ⟨w.heap.size + 1, 1, none⟩ = some (.int .i64 L) := hD.cell 1
  have e2 : w3.cell? ⟨w.heap.size + 1, 2, none⟩ = some (.int .i64 T) := hD.cell 2
  have e3 : w3.cell? ⟨w.heap.size + 1, 3, none⟩ = some (.int .i64 R) := hD.cell 3
  have e4 : w3.cell? ⟨w.heap.size + 1, 4, none⟩ = some (.int .i64 B) := hD.cell 4
  exact bodyPost_ret (v := .agg #[.int .i64 s, .int .i64 L, .int .i64 T, .int .i64 R, .int .i64 B]) (by simp [results, Tryz.results34, go_sem, e0, e1, e2, e3, e4]) rfl ⟨rfl, hbl⟩
def TonesB (w : World) (e : Ending) (w' : World) : Prop := ∃ D L : Nat, 128 ≤ L ∧ L ≤ 255 ∧ 3 * D ≤ L ∧ e = .returned (.tuple #[.int .u8 D, .int .u8 L]) ∧ Below w.heap.size w w'
set_option maxHeartbeats 4000000 in
theorem tones_any (sc b0 b1 b2 b3 dk lt : Nat) (pt : Bool) (hd : dk < 256) (hl : lt < 256) :
    Calls Tryz.prog 35 #[.agg #[.int .u8 sc, .int .u8 b0, .int .u8 b1, .int .u8 b2, .int .u8 b3, .int .u8 dk, .int .u8 lt, .bool pt]] w (TonesB w) := by
  obtain ⟨L, hL⟩ : ∃ L, L = 128 + lt % 128 := ⟨_, rfl⟩
  go_enter Tryz.func35, Tryz.ntmps35
  go_wp2_with fail
  have e1 : (128 : Int) + (lt : Int) % 128 = ((L : Nat) : Int) := by omega
  rw [e1]
  have e2 : (L : Int) / 3 + 1 = ((L / 3 + 1 : Nat) : Int) := by omega
  rw [e2, ← Int.natCast_emod]
  have hm := Nat.mod_lt dk (show 0 < L / 3 + 1 by omega)
  go_ret2
  exact ⟨dk % (L / 3 + 1), L, by omega, by omega, by omega, rfl, (Below.refl _ _).alloc (Nat.le_refl _) _⟩
end
end Go.Proofs.YtcekbhhpcmhicaaGreatDoor
namespace Go.Proofs.YtcekbhhpcmhicaaGreatDoor
open Go.RowKit Go.QW Go.QI
/-- block A is the rectangle of W columns and H rows whose bit in row y, column x is F y x; its words in block g -/
structure BX (w : World) (A g W H : Nat) (F : Nat → Nat → Bool) : Prop where
  mk' ::
  ex : ∃ (ws : List Nat) (r : Nat), r = (W + 31) / 32 ∧ ws.length = H * r ∧ Blk w A 304 #[.int .i64 W, .int .i64 H, .int .i64 r, .slice (some ⟨g, 0, none⟩) (H * r) (H * r)] ∧ Blk w g 252 (ints .u32 ws) ∧ (∀ x, x ∈ ws → x < 4294967296) ∧
    (∀ y x, y < H → x < 32 * r → (nth ws (y * r + x / 32)).testBit (x % 32) = F y x) ∧ (∀ y x, W ≤ x → F y x = false) ∧ (1 ≤ W ∧ W ≤ 1000) ∧ 1 ≤ H ∧ H ≤ 1000
theorem BX.kp {w w' : World} {S : List Nat} {A g W H : Nat} {F : Nat → Nat → Bool} (h : BX w A g W H F) (hk : Kp S w w') (h1 : A ∉ S) (h2 : g ∉ S) : BX w' A g W H F := by
  obtain ⟨ws, r, a, b, c, e, k⟩ := h.ex
  exact ⟨ws, r, a, b, c.kp hk h1, e.kp hk h2, k⟩
theorem BX.below {w w' : World} {B A g W H : Nat} {F : Nat → Nat → Bool} (h : BX w A g W H F) (hk : Below B w w') (h1 : A < B) (h2 : g < B) : BX w' A g W H F := by
  obtain ⟨ws, r, a, b, c, e, k⟩ := h.ex
  exact ⟨ws, r, a, b, c.below hk h1, e.below hk h2, k⟩
theorem BX.lt {w : World} {A g W H : Nat} {F : Nat → Nat → Bool} (h : BX w A g W H F) : A < w.heap.size ∧ g < w.heap.size := by
  obtain ⟨ws, r, a, b, c, e, k⟩ := h.ex
  exact ⟨c.lt, e.lt⟩
theorem BX.congr {w : World} {A g W H : Nat} {F F' : Nat → Nat → Bool} (h : BX w A g W H F) (e : ∀ y x, F y x = F' y x) : BX w A g W H F' := by
  rw [show F' = F from funext fun y => funext fun x => (e y x).symm]
  exact h
theorem bx_ix {W H r y x : Nat} (hr : r = (W + 31) / 32) (hy : y < H) (hx : x < W) : y * r + x / 32 < H * r := mul_row (by omega) hy
section
variable {w : World} {A g W H : Nat} {F : Nat → Nat → Bool}
theorem bxw_any (h : BX w A g W H F) :
    Calls Tryz.prog 136 #[.pointer (some ⟨A, 0, none⟩)] w fun e w' => e = .returned (.int .i64 (W : Nat)) ∧ w = w' := by
  obtain ⟨ws, r, -, -, hA, -⟩ := h.ex
  have a0 := hA.cell 0
  simp only [List.getElem?_toArray, List.getElem?_cons_zero] at a0
  go_enter Tryz.func136, Tryz.ntmps136
  go_wp2
  go_ret
  exact ⟨rfl, rfl⟩
theorem bxh_any (h : BX w A g W H F) :
    Calls Tryz.prog 135 #[.pointer (some ⟨A, 0, none⟩)] w fun e w' => e = .returned (.int .i64 (H : Nat)) ∧ w = w' := by
  obtain ⟨ws, r, -, -, hA, -⟩ := h.ex
  have a0 := hA.cell 1
  simp only [List.getElem?_toArray, List.getElem?_cons_zero, List.getElem?_cons_succ] at a0
  go_enter Tryz.func135, Tryz.ntmps135
  go_wp2
  go_ret
  exact ⟨rfl, rfl⟩
set_option maxHeartbeats 4000000 in
set_option maxRecDepth 100000 in
theorem bxget_any (xn yn : Nat) {x y : Int} (h : BX w A g W H F) (hx : x = xn) (hy : y = yn) (hxd : xn < W) (hyd : yn < H) :
    Calls Tryz.prog 137 #[.pointer (some ⟨A, 0, none⟩), .int .i64 x, .int .i64 y] w fun e w' => e = .returned (.bool (F yn xn)) ∧ w = w' := by
  subst hx hy
  obtain ⟨ws, r, hr, hl, hA, hg, hw, ht, -, h1, h2⟩ := h.ex
  have a0 := hA.cell 0
  have a1 := hA.cell 1
  have a2 := hA.cell 2
  have a3 := hA.cell 3
  simp only [List.getElem?_toArray, List.getElem?_cons_zero, List.getElem?_cons_succ] at a0 a1 a2 a3
  have hix := bx_ix hr hyd hxd
  have hrl : r ≤ 32 := by omega
  have hnr : yn * r ≤ 32000 := Nat.le_trans (Nat.mul_le_mul (show yn ≤ 1000 by omega) hrl) (by omega)
  have hdr : H * r ≤ 32000 := Nat.le_trans (Nat.mul_le_mul h2.2 hrl) (by omega)
  have hcw := hg.cell (yn * r + xn / 32)
  rw [ints_get (by rw [hl]; exact hix)] at hcw
  have hxv : nth ws (yn * r + xn / 32) < 4294967296 := by rw [nth_get (by rw [hl]; exact hix)]; exact hw _ (List.getElem_mem _)
  have htb := ht yn xn hyd (by omega)
  obtain ⟨n, hn⟩ : ∃ n, n = yn * r := ⟨_, rfl⟩
  obtain ⟨L, hL⟩ : ∃ L, L = H * r := ⟨_, rfl⟩
  have hmul : wrap64 ((yn : Int) * (r : Int)) = ((n : Nat) : Int) := by rw [← Int.natCast_mul, ← hn]; unfold wrap64; omega
  rw [← hn] at hix hnr hcw hxv htb
  rw [← hL] at a3 hix hdr
  obtain ⟨z, hz⟩ : ∃ z, z = nth ws (n + xn / 32) := ⟨_, rfl⟩
  rw [← hz] at hcw hxv htb
  have HTB := Lib.hid htb
  have d1 : decide ((xn : Int) < 0) = false := by simp
  have d2 : decide ((yn : Int) < 0) = false := by simp
  have d3 : decide ((W : Int) ≤ (xn : Int)) = false := by simp; omega
  have d4 : decide ((H : Int) ≤ (yn : Int)) = false := by simp; omega
  clear hz hn hL htb ht hw hl hr
  go_enter Tryz.func137, Tryz.ntmps137
  go_wp2_with fail
  go_ret
  refine ⟨?_, rfl⟩
  show Ending.returned (.bool (bits .and .u32 ((z : Int) / 2 ^ (xn % 32)) 1 != 0)) = _
  have e1 : (z : Int) / 2 ^ (xn % 32) = ((z / 2 ^ (xn % 32) : Nat) : Int) := by rw [Int.natCast_ediv, Int.natCast_pow]; rfl
  have e2 : z / 2 ^ (xn % 32) < 4294967296 := Nat.lt_of_le_of_lt (Nat.div_le_self _ _) hxv
  have e3 := u32_and (z / 2 ^ (xn % 32)) 1 e2 (by omega)
  rw [e1, show bits .and .u32 ((z / 2 ^ (xn % 32) : Nat) : Int) 1 = _ from e3, ← HTB.out, Nat.testBit_eq_decide_div_mod_eq, Nat.and_one_is_mod]
  generalize z / 2 ^ (xn % 32) = u
  apply ret_bool
  by_cases h : u % 2 = 1
  · rw [h]; rfl
  · rw [show u % 2 = 0 by omega]; rfl
set_option maxHeartbeats 4000000 in
set_option maxRecDepth 100000 in
theorem bxset_any (xn yn : Nat) {x y : Int} (h : BX w A g W H F) (hx : x = xn) (hy : y = yn) (hxd : xn < W) (hyd : yn < H) :
    Calls Tryz.prog 144 #[.pointer (some ⟨A, 0, none⟩), .int .i64 x, .int .i64 y] w fun e w' => e = .returned (.tuple #[]) ∧ BX w' A g W H (fun Y X => if Y = yn ∧ X = xn then true else F Y X) ∧ Kp [g] w w' := by
  subst hx hy
  obtain ⟨ws, r, hr, hl, hA, hg, hw, ht, ho, h1, h2⟩ := h.ex
  have a2 := hA.cell 2
  have a3 := hA.cell 3
  simp only [List.getElem?_toArray, List.getElem?_cons_zero, List.getElem?_cons_succ] at a2 a3
  have hix := bx_ix hr hyd hxd
  have hrl : r ≤ 32 := by omega
  have hnr : yn * r ≤ 32000 := Nat.le_trans (Nat.mul_le_mul (show yn ≤ 1000 by omega) hrl) (by omega)
  have hdr : H * r ≤ 32000 := Nat.le_trans (Nat.mul_le_mul h2.2 hrl) (by omega)
  have hcw := hg.cell (yn * r + xn / 32)
  rw [ints_get (by rw [hl]; exact hix)] at hcw
  have hfw := hg.frozen (yn * r + xn / 32)
  have hxv : nth ws (yn * r + xn / 32) < 4294967296 := by rw [nth_get (by rw [hl]; exact hix)]; exact hw _ (List.getElem_mem _)
  obtain ⟨n, hn⟩ : ∃ n, n = yn * r := ⟨_, rfl⟩
  obtain ⟨L, hL⟩ : ∃ L, L = H * r := ⟨_, rfl⟩
  have hmul : wrap64 ((yn : Int) * (r : Int)) = ((n : Nat) : Int) := by rw [← Int.natCast_mul, ← hn]; unfold wrap64; omega
  have hixl : n + xn / 32 < ws.length := by rw [hl, hn]; exact hix
  rw [← hn] at hix hnr hcw hxv hfw
  rw [← hL] at a3 hix hdr
  obtain ⟨z, hz⟩ : ∃ z, z = nth ws (n + xn / 32) := ⟨_, rfl⟩
  rw [← hz] at hcw hxv
  have HT := Lib.hid ht
  have HW := Lib.hid hw
  have HL := Lib.hid hl
  have HR := Lib.hid hr
  have HN := Lib.hid hn
  have HZ := Lib.hid hz
  have HO := Lib.hid ho
  clear hz hn hL ht hw hl hr ho
  go_enter Tryz.func144, Tryz.ntmps144
  go_wp2_with fail
  go_end0
  have h2l := two_pow_lt32 (xn % 32) (by omega)
  rw [two_pow_u32 _ (by omega), u32_or _ _ hxv h2l]
  have hgA : A ≠ g := hA.ne_ hg (by decide)
  have hg2 := hg.set_ (n + xn / 32) (.int .u32 ((z ||| 2 ^ (xn % 32) : Nat) : Int))
  rw [ints_set] at hg2
  refine ⟨rfl, ⟨_, r, HR.out, by rw [List.length_set]; exact HL.out, hA.far (by simpa using hgA) _, hg2, ?_, ?_, ?_, h1, h2⟩, (Kp.refl _ _).setCell (by simp) _⟩
  · intro u hu
    rcases List.mem_or_eq_of_mem_set hu with hu | rfl
    · exact HW.out u hu
    · exact Nat.or_lt_two_pow (n := 32) hxv h2l
  · intro Y X hY hX
    have hold := HT.out Y X hY hX
    rw [nth_set hixl]
    by_cases e : Y * r + X / 32 = n + xn / 32
    · rw [if_pos e, HZ.out, ← e]
      obtain ⟨e1, e2⟩ := dm (R := r) (p := Y) (p' := yn) (j := X / 32) (j' := xn / 32) (by omega) (by have := HR.out; omega) (by rw [e, HN.out])
      subst e1
      rw [Nat.testBit_or, hold, Nat.testBit_two_pow]
      by_cases ex : X = xn
      · subst ex; rw [if_pos ⟨rfl, rfl⟩, decide_eq_true rfl, Bool.or_true]
      · rw [if_neg (fun q => ex q.2), decide_eq_false (by omega), Bool.or_false]
    · rw [if_neg e, hold, if_neg]
      rintro ⟨rfl, rfl⟩
      exact e (by rw [HN.out])
  · intro Y X hX
    rw [if_neg (by omega)]
    exact HO.out Y X hX
set_option maxHeartbeats 4000000 in
set_option maxRecDepth 100000 in
theorem newbx_any (W H : Nat) (h1 : 1 ≤ W ∧ W ≤ 1000) (h2 : 1 ≤ H ∧ H ≤ 1000) (w : World) :
    Calls Tryz.prog 143 #[.int .i64 W, .int .i64 H] w fun e w' => ∃ A g, e = .returned (.tuple #[.pointer (some ⟨A, 0, none⟩), .nilIface]) ∧ BX w' A g W H (fun _ _ => false) ∧ w.heap.size ≤ A ∧ w.heap.size ≤ g ∧ Below w.heap.size w w' := by
  obtain ⟨r, hr⟩ : ∃ r, r = (W + 31) / 32 := ⟨_, rfl⟩
  have hrl : r ≤ 32 := by omega
  obtain ⟨L, hL⟩ : ∃ L, L = H * r := ⟨_, rfl⟩
  have hdr : L ≤ 32000 := by rw [hL]; exact Nat.le_trans (Nat.mul_le_mul h2.2 hrl) (by omega)
  have hdiv : ((W : Int) + 31) / 32 = ((r : Nat) : Int) := by omega
  have hmul : wrap64 ((r : Int) * (H : Int)) = ((L : Nat) : Int) := by rw [Int.mul_comm, ← Int.natCast_mul, ← hL]; unfold wrap64; omega
  have hmk := make_flat Tryz.underlying184 word_info (by decide) L (L : Int) rfl (by omega)
  have d1 : decide ((W : Int) < 1) = false := by simp; omega
  have d2 : decide ((H : Int) < 1) = false := by simp; omega
  have HR := Lib.hid hr
  have HL := Lib.hid hL
  clear hr hL
  go_enter Tryz.func143, Tryz.ntmps143
  go_wp2_with fail
  go_ret2
  refine ⟨w.heap.size + 1, w.heap.size, rfl, ⟨List.replicate L 0, r, HR.out, by rw [List.length_replicate, HL.out], ?_, (Blk.new w _ _).alloc _, ?_, ?_, fun _ _ _ => rfl, h1, h2⟩, by omega, Nat.le_refl _, ((Below.refl _ _).alloc (Nat.le_refl _) _).alloc (by simp) _⟩
  · have := Blk.new (w.alloc (Obj.cells (ints IntKind.u32 (List.replicate L 0)) 252)) 304 #[.int .i64 W, .int .i64 H, .int .i64 r, .slice (some ⟨w.heap.size, 0, none⟩) L L]
    rw [World.size_alloc] at this
    rw [← HL.out]
    exact this
  · intro x hx
    rw [List.mem_replicate] at hx
    rw [hx.2]; decide
  · intro y x _ _
    rw [nth_replicate, ite_self]; simp
end
end Go.Proofs.YtcekbhhpcmhicaaGreatDoor
namespace Go.Proofs.YtcekbhhpcmhicaaGreatDoor
open Go.RowKit Go.QW Go.QI Go.QP
section
variable {w : World} {A g W H : Nat} {F : Nat → Nat → Bool}
/-- words ahead of the first bit are 0, its word is not -/
theorem word_false {ws : List Nat} {r k : Nat} (hr : 1 ≤ r) (ht : ∀ y x, y < H → x < 32 * r → (nth ws (y * r + x / 32)).testBit (x % 32) = F y x) (hk : k < H * r) (hz : nth ws k < 4294967296)
    (hF : ∀ x, x / 32 = k % r → F (k / r) x = false) : nth ws k = 0 := by
  rw [word_zero hz]
  intro b hb
  have hy : k / r < H := Nat.div_lt_of_lt_mul (by rw [Nat.mul_comm]; exact hk)
  have hm := Nat.mod_lt k (show 0 < r by omega)
  have h1 := ht (k / r) (32 * (k % r) + b) hy (by
    have : 32 * (k % r + 1) ≤ 32 * r := Nat.mul_le_mul_left _ hm
    omega)
  rw [show (32 * (k % r) + b) / 32 = k % r by omega, show (32 * (k % r) + b) % 32 = b by omega, Nat.mul_comm, Nat.div_add_mod] at h1
  rw [h1]
  exact hF _ (by omega)
theorem shl_int {z b : Nat} {c : Prop} [Decidable c] (h : (z * 2 ^ (31 - b) % 4294967296 = 0) ↔ c) : ((z : Int) * 2 ^ (31 - b) % 4294967296 == 0) = decide c := by
  have e : (z : Int) * 2 ^ (31 - b) % 4294967296 = ((z * 2 ^ (31 - b) % 4294967296 : Nat) : Int) := by rw [Int.natCast_emod, Int.natCast_mul, Int.natCast_pow]; rfl
  rw [e]
  generalize z * 2 ^ (31 - b) % 4294967296 = u at h
  rw [Bool.eq_iff_iff, beq_iff_eq, decide_eq_true_eq, ← h]
  omega
theorem shr_int {z b : Nat} {c : Prop} [Decidable c] (h : (z / 2 ^ b = 0) ↔ c) : ((z : Int) / 2 ^ b == 0) = decide c := by
  have e : (z : Int) / 2 ^ b = ((z / 2 ^ b : Nat) : Int) := by rw [Int.natCast_ediv, Int.natCast_pow]; rfl
  rw [e]
  generalize z / 2 ^ b = u at h
  rw [Bool.eq_iff_iff, beq_iff_eq, decide_eq_true_eq, ← h]
  omega
def At2 (x y : Nat) (w : World) (e : Ending) (w' : World) : Prop := ∃ G, e = .returned (.slice (some ⟨G, 0, none⟩) 2 2) ∧ Blk w' G 3 #[.int .i64 x, .int .i64 y] ∧ Below w.heap.size w w'
set_option maxHeartbeats 8000000 in
set_option maxRecDepth 100000 in
theorem tlon_any {x0 y0 : Nat} (h : BX w A g W H F) (hF : F y0 x0 = true) (hy : y0 < H) (hx : x0 < W) (hb : ∀ y x, y < H → F y x = true → y0 < y ∨ (y = y0 ∧ x0 ≤ x)) :
    Calls Tryz.prog 138 #[.pointer (some ⟨A, 0, none⟩)] w (At2 x0 y0 w) := by
  obtain ⟨ws, r, hr, hl, hA, hg, hw, ht, ho, h1, h2⟩ := h.ex
  have a2 := hA.cell 2
  have a3 := hA.cell 3
  simp only [List.getElem?_toArray, List.getElem?_cons_zero, List.getElem?_cons_succ] at a2 a3
  have hix := bx_ix hr hy hx
  have hrl : 1 ≤ r ∧ r ≤ 32 := by omega
  have hdr : H * r ≤ 32000 := Nat.le_trans (Nat.mul_le_mul h2.2 hrl.2) (by omega)
  obtain ⟨j0, hj0⟩ : ∃ j0, j0 = x0 / 32 := ⟨_, rfl⟩
  obtain ⟨b0, hb0⟩ : ∃ b0, b0 = x0 % 32 := ⟨_, rfl⟩
  obtain ⟨m, hm⟩ : ∃ m, m = y0 * r + j0 := ⟨_, rfl⟩
  obtain ⟨N, hN⟩ : ∃ N, N = H * r := ⟨_, rfl⟩
  have hj0r : j0 < r := by omega
  have hmN : m < N := by rw [hm, hN, hj0]; exact hix
  have hq : Int.tdiv (m : Int) (r : Int) = ((y0 : Nat) : Int) := by
    rw [Int.tdiv_eq_ediv_of_nonneg (by omega), ← Int.natCast_ediv, hm, Nat.mul_comm, Nat.mul_add_div (by omega), Nat.div_eq_of_lt hj0r, Nat.add_zero]
  have hq' : (m : Int) / (r : Int) = ((y0 : Nat) : Int) := by
    rw [← Int.natCast_ediv, hm, Nat.mul_comm, Nat.mul_add_div (by omega), Nat.div_eq_of_lt hj0r, Nat.add_zero]
  have hmd : Int.tmod (m : Int) (r : Int) = ((j0 : Nat) : Int) := by
    rw [Int.tmod_eq_emod_of_nonneg (by omega), ← Int.natCast_emod, hm, Nat.mul_comm, Nat.mul_add_mod, Nat.mod_eq_of_lt hj0r]
  have hmd' : (m : Int) % (r : Int) = ((j0 : Nat) : Int) := by
    rw [← Int.natCast_emod, hm, Nat.mul_comm, Nat.mul_add_mod, Nat.mod_eq_of_lt hj0r]
  have hwl : ∀ k, k < N → nth ws k < 4294967296 := fun k hk => by rw [nth_get (by rw [hl, ← hN]; exact hk)]; exact hw _ (List.getElem_mem _)
  have hbit0 : (nth ws m).testBit b0 = true := by rw [hm, hj0, hb0, ht y0 x0 hy (by omega)]; exact hF
  have hlow : ∀ i, i < b0 → (nth ws m).testBit i = false := fun i hi => by
    have := ht y0 (32 * j0 + i) hy (by omega)
    rw [show (32 * j0 + i) / 32 = j0 by omega, show (32 * j0 + i) % 32 = i by omega, ← hm] at this
    rw [this]
    cases hc : F y0 (32 * j0 + i) with
    | false => rfl
    | true => have := hb _ _ hy hc; omega
  have hzero : ∀ k, k < m → nth ws k = 0 := fun k hk => word_false hrl.1 ht (by rw [← hN]; omega) (hwl k (by omega)) (fun x hxk => by
    cases hc : F (k / r) x with
    | false => rfl
    | true =>
      have hkH : k / r < H := Nat.div_lt_of_lt_mul (by rw [Nat.mul_comm, ← hN]; omega)
      have h3 := hb _ _ hkH hc
      have hkd := Nat.div_add_mod k r
      rcases h3 with h3 | ⟨h3, h4⟩
      · have : (y0 + 1) * r ≤ (k / r) * r := Nat.mul_le_mul_right _ h3
        rw [Nat.succ_mul] at this
        rw [Nat.mul_comm r] at hkd
        omega
      · rw [h3, Nat.mul_comm r] at hkd
        omega)
  have hcell : ∀ k, k < N → w.cell? ⟨g, k, none⟩ = some (.int .u32 (nth ws k : Nat)) := fun k hk => by
    have := hg.cell k
    rw [ints_get (by rw [hl, ← hN]; exact hk)] at this
    exact this
  have hb32 : b0 < 32 := by omega
  rw [← hN] at a3 hdr
  have HC := Lib.hid hcell
  have HZ := Lib.hid hzero
  have HB := Lib.hid (And.intro hbit0 hlow)
  have HW := Lib.hid hwl
  have HX := Lib.hid (And.intro hj0 hb0)
  clear hm hN hj0 hb0 hwl hbit0 hlow hzero hcell hix hl hw ht ho hb hF hr
  go_enter Tryz.func138, Tryz.ntmps138
  go_wp2_with fail
  go_loop [3] (fun t3 => ∃ k : Nat, k ≤ m ∧ t3 = .int .i64 (k : Nat)) (fun t3 => m - (intOf t3).toNat)
  case atStart => exact ⟨0, by omega, rfl⟩
  case round =>
    obtain ⟨k, hk, rfl⟩ := hrel
    have hdk : decide ((k : Int) < (N : Int)) = true := by simp; omega
    by_cases hlt : k < m
    · have ck := HC.out k (by omega)
      rw [HZ.out k hlt] at ck
      have ck0 : w.cell? ⟨g, k, none⟩ = some (.int .u32 0) := ck
      clear ck
      go_wp2_with fail
      go_round
      case rel => exact ⟨k + 1, by omega, by go_num⟩
      case measure => simp [intOf]; omega
      all_goals (exfalso; omega)
    · obtain rfl : k = m := by omega
      have ck := HC.out k hmN
      obtain ⟨z, hz⟩ : ∃ z, z = nth ws k := ⟨_, rfl⟩
      have hz32 : z < 4294967296 := by rw [hz]; exact HW.out k hmN
      have hzb := HB.out
      rw [← hz] at ck hzb
      have hzne : z ≠ 0 := fun e => by have := hzb.1; rw [e, Nat.zero_testBit] at this; cases this
      have hzb2 : ((z : Int) == 0) = false := by rw [beq_eq_false_iff_ne]; omega
      have hkN : ((k : Int) == (N : Int)) = false := by rw [beq_eq_false_iff_ne]; omega
      have HZB := Lib.hid hzb
      clear hz hzb hzne hlt hk
      go_wp2_with fail
      go_loop [7] (fun t7 => ∃ b : Nat, b ≤ b0 ∧ t7 = .int .u64 (b : Nat)) (fun t7 => b0 - (intOf t7).toNat)
      case atStart => exact ⟨0, by omega, rfl⟩
      case round =>
        obtain ⟨b, hbb, rfl⟩ := hrel
        have hsh0 := shl_int (low_step HZB.out.1 HZB.out.2 hbb (by omega))
        by_cases hlt : b < b0
        · have hsh : ((z : Int) * 2 ^ (31 - b) % 4294967296 == 0) = true := by rw [hsh0, decide_eq_true hlt]
          clear hsh0
          go_wp2_with fail
          go_round
          case rel => exact ⟨b + 1, by omega, by go_num⟩
          case measure => simp [intOf]; omega
        · have hsh : ((z : Int) * 2 ^ (31 - b) % 4294967296 == 0) = false := by rw [hsh0, decide_eq_false hlt]
          clear hsh0
          obtain rfl : b = b0 := by omega
          go_wp2_with fail
          go_ret
          have hX := HX.out
          have e : (j0 : Int) * 32 + (b : Int) = (x0 : Nat) := by omega
          rw [e]
          exact ⟨w.heap.size, rfl, Blk.new _ _ _, (Below.refl _ _).alloc (Nat.le_refl _) _⟩
def Br2 (W : Nat) (F : Nat → Nat → Bool) (y1 : Nat) (w : World) (e : Ending) (w' : World) : Prop := ∃ x, (x < W ∧ F y1 x = true ∧ ∀ x', F y1 x' = true → x' ≤ x) ∧ At2 x y1 w e w'
theorem last_of {f : Nat → Bool} {W x1 : Nat} (h : f x1 = true) (ho : ∀ x, W ≤ x → f x = false) : ∃ x, x < W ∧ f x = true ∧ ∀ x', f x' = true → x' ≤ x := by
  induction W with
  | zero => rw [ho x1 (by omega)] at h; cases h
  | succ W ih =>
    by_cases hW : f W = true
    · refine ⟨W, by omega, hW, fun x' hx' => ?_⟩
      rcases Nat.lt_or_ge x' (W + 1) with h1 | h1
      · omega
      · rw [ho x' h1] at hx'; cases hx'
    · obtain ⟨x, a, b, c⟩ := ih (fun x hx => by
        by_cases e : x = W
        · rw [e]; cases hc : f W with
          | false => rfl
          | true => exact absurd hc hW
        · exact ho x (by omega))
      exact ⟨x, by omega, b, c⟩
set_option maxHeartbeats 8000000 in
set_option maxRecDepth 100000 in
theorem bron_any {x1 y0 : Nat} (h : BX w A g W H F) (hF1 : F y0 x1 = true) (hy : y0 < H) (hb : ∀ y x, y < H → F y x = true → y ≤ y0) :
    Calls Tryz.prog 139 #[.pointer (some ⟨A, 0, none⟩)] w (Br2 W F y0 w) := by
  obtain ⟨ws, r, hr, hl, hA, hg, hw, ht, ho, h1, h2⟩ := h.ex
  obtain ⟨x0, hx, hF, hmax⟩ := last_of (f := F y0) hF1 (fun x hx => ho y0 x hx)
  have a2 := hA.cell 2
  have a3 := hA.cell 3
  simp only [List.getElem?_toArray, List.getElem?_cons_zero, List.getElem?_cons_succ] at a2 a3
  have hix := bx_ix hr hy hx
  have hrl : 1 ≤ r ∧ r ≤ 32 := by omega
  have hdr : H * r ≤ 32000 := Nat.le_trans (Nat.mul_le_mul h2.2 hrl.2) (by omega)
  obtain ⟨j0, hj0⟩ : ∃ j0, j0 = x0 / 32 := ⟨_, rfl⟩
  obtain ⟨b0, hb0⟩ : ∃ b0, b0 = x0 % 32 := ⟨_, rfl⟩
  obtain ⟨m, hm⟩ : ∃ m, m = y0 * r + j0 := ⟨_, rfl⟩
  obtain ⟨N, hN⟩ : ∃ N, N = H * r := ⟨_, rfl⟩
  have hj0r : j0 < r := by omega
  have hmN : m < N := by rw [hm, hN, hj0]; exact hix
  have hq : Int.tdiv (m : Int) (r : Int) = ((y0 : Nat) : Int) := by
    rw [Int.tdiv_eq_ediv_of_nonneg (by omega), ← Int.natCast_ediv, hm, Nat.mul_comm, Nat.mul_add_div (by omega), Nat.div_eq_of_lt hj0r, Nat.add_zero]
  have hq' : (m : Int) / (r : Int) = ((y0 : Nat) : Int) := by
    rw [← Int.natCast_ediv, hm, Nat.mul_comm, Nat.mul_add_div (by omega), Nat.div_eq_of_lt hj0r, Nat.add_zero]
  have hmd : Int.tmod (m : Int) (r : Int) = ((j0 : Nat) : Int) := by
    rw [Int.tmod_eq_emod_of_nonneg (by omega), ← Int.natCast_emod, hm, Nat.mul_comm, Nat.mul_add_mod, Nat.mod_eq_of_lt hj0r]
  have hmd' : (m : Int) % (r : Int) = ((j0 : Nat) : Int) := by
    rw [← Int.natCast_emod, hm, Nat.mul_comm, Nat.mul_add_mod, Nat.mod_eq_of_lt hj0r]
  have hwl : ∀ k, k < N → nth ws k < 4294967296 := fun k hk => by rw [nth_get (by rw [hl, ← hN]; exact hk)]; exact hw _ (List.getElem_mem _)
  have hbit0 : (nth ws m).testBit b0 = true := by rw [hm, hj0, hb0, ht y0 x0 hy (by omega)]; exact hF
  have hhigh : ∀ i, b0 < i → (nth ws m).testBit i = false := fun i hi => by
    rcases Nat.lt_or_ge i 32 with hi2 | hi2
    · have := ht y0 (32 * j0 + i) hy (by omega)
      rw [show (32 * j0 + i) / 32 = j0 by omega, show (32 * j0 + i) % 32 = i by omega, ← hm] at this
      rw [this]
      cases hc : F y0 (32 * j0 + i) with
      | false => rfl
      | true => have := hmax _ hc; omega
    · exact Nat.testBit_lt_two_pow (Nat.lt_of_lt_of_le (hwl m hmN) (show (4294967296 : Nat) ≤ 2 ^ i from Nat.pow_le_pow_right (n := 2) (i := 32) (by omega) hi2))
  have hzero : ∀ k, m < k → k < N → nth ws k = 0 := fun k hk hkN => word_false hrl.1 ht (by rw [← hN]; omega) (hwl k (by omega)) (fun x hxk => by
    cases hc : F (k / r) x with
    | false => rfl
    | true =>
      have hkH : k / r < H := Nat.div_lt_of_lt_mul (by rw [Nat.mul_comm, ← hN]; omega)
      have h3 := hb _ _ hkH hc
      have hkd := Nat.div_add_mod k r
      rcases Nat.lt_or_ge (k / r) y0 with h4 | h4
      · have : (k / r + 1) * r ≤ y0 * r := Nat.mul_le_mul_right _ h4
        rw [Nat.succ_mul] at this
        rw [Nat.mul_comm r] at hkd
        have := Nat.mod_lt k (show 0 < r by omega)
        omega
      · have h5 : k / r = y0 := by omega
        rw [h5] at hc
        have h6 := hmax _ hc
        rw [h5, Nat.mul_comm r] at hkd
        omega)
  have hcell : ∀ k, k < N → w.cell? ⟨g, k, none⟩ = some (.int .u32 (nth ws k : Nat)) := fun k hk => by
    have := hg.cell k
    rw [ints_get (by rw [hl, ← hN]; exact hk)] at this
    exact this
  have hb32 : b0 < 32 := by omega
  rw [← hN] at a3 hdr
  have HC := Lib.hid hcell
  have HZ := Lib.hid hzero
  have HB := Lib.hid (And.intro hbit0 hhigh)
  have HW := Lib.hid hwl
  have HX := Lib.hid (And.intro hj0 hb0)
  have HM := Lib.hid (And.intro hx (And.intro hF hmax))
  clear hm hN hj0 hb0 hwl hbit0 hhigh hzero hcell hix hl hw ht ho hb hF hr hmax hx hF1
  go_enter Tryz.func139, Tryz.ntmps139
  go_wp2_with fail
  go_loop [3] (fun t3 => ∃ k : Nat, m ≤ k ∧ k < N ∧ t3 = .int .i64 (k : Nat)) (fun t3 => (intOf t3).toNat)
  case atStart => exact ⟨N - 1, by omega, by omega, by congr 1; omega⟩
  case round =>
    obtain ⟨k, hk, hkN, rfl⟩ := hrel
    have hdk : decide ((0 : Int) ≤ (k : Int)) = true := by simp
    by_cases hlt : m < k
    · have ck := HC.out k (by omega)
      rw [HZ.out k hlt hkN] at ck
      have ck0 : w.cell? ⟨g, k, none⟩ = some (.int .u32 0) := ck
      clear ck
      go_wp2_with fail
      go_round
      case rel => exact ⟨k - 1, by omega, by omega, by congr 1; omega⟩
      case measure => simp [intOf]; omega
    · obtain rfl : k = m := by omega
      have ck := HC.out k hmN
      obtain ⟨z, hz⟩ : ∃ z, z = nth ws k := ⟨_, rfl⟩
      have hz32 : z < 4294967296 := by rw [hz]; exact HW.out k hmN
      have hzb := HB.out
      rw [← hz] at ck hzb
      have hzne : z ≠ 0 := fun e => by have := hzb.1; rw [e, Nat.zero_testBit] at this; cases this
      have hzb2 : ((z : Int) == 0) = false := by rw [beq_eq_false_iff_ne]; omega
      have hd0 : decide ((k : Int) < 0) = false := by simp
      have HZB := Lib.hid hzb
      clear hz hzb hzne hlt hk
      go_wp2_with fail
      go_loop [7] (fun t7 => ∃ b : Nat, b0 ≤ b ∧ b ≤ 31 ∧ t7 = .int .u64 (b : Nat)) (fun t7 => (intOf t7).toNat)
      case atStart => exact ⟨31, by omega, by omega, rfl⟩
      case round =>
        obtain ⟨b, hbb, hb31, rfl⟩ := hrel
        have hsh0 := shr_int (high_step HZB.out.1 HZB.out.2 hbb)
        by_cases hlt : b0 < b
        · have hsh : ((z : Int) / 2 ^ b == 0) = true := by rw [hsh0, decide_eq_true hlt]
          clear hsh0
          go_wp2_with fail
          go_round
          case rel => exact ⟨b - 1, by omega, by omega, by congr 1; omega⟩
          case measure => simp [intOf]; omega
        · have hsh : ((z : Int) / 2 ^ b == 0) = false := by rw [hsh0, decide_eq_false hlt]
          clear hsh0
          obtain rfl : b = b0 := by omega
          go_wp2_with fail
          go_ret
          have hX := HX.out
          have e : (j0 : Int) * 32 + (b : Int) = (x0 : Nat) := by omega
          rw [e]
          exact ⟨x0, HM.out, w.heap.size, rfl, Blk.new _ _ _, (Below.refl _ _).alloc (Nat.le_refl _) _⟩
end
end Go.Proofs.YtcekbhhpcmhicaaGreatDoor
