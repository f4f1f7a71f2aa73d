/- BitMatrix: a square of bits; BitMatrix: NewBitMatrix, SetRegion; The decoder's blocks: what stands in them while they are filled. -/
import Derived.Test.YtcekbhhpcmhicaaGreatDoorM01
import Derived.Test.YtcekbhhpcmhicaaGreatDoorM08
import Derived.Test.YtcekbhhpcmhicaaGreatDoorM09
import Derived.Test.YtcekbhhpcmhicaaGreatDoorM10
import Derived.Test.YtcekbhhpcmhicaaGreatDoorM21
namespace Go.Proofs.YtcekbhhpcmhicaaGreatDoor
open Go.RowKit Go.QW Go.QI
/-- block A is the square of side d whose bit in row y, column x is f y x; its words in block g -/
structure BM (w : World) (A g d : Nat) (f : Nat → Nat → Bool) : Prop where
  mk' ::
  ex : ∃ (ws : List Nat) (r : Nat), r = (d + 31) / 32 ∧ ws.length = d * r ∧ Blk w A 304 #[.int .i64 d, .int .i64 d, .int .i64 r, .slice (some ⟨g, 0, none⟩) (d * r) (d * r)] ∧ Blk w g 252 (ints .u32 ws) ∧ (∀ x, x ∈ ws → x < 4294967296) ∧
    (∀ y x, y < d → x < d → (nth ws (y * r + x / 32)).testBit (x % 32) = f y x) ∧ 1 ≤ d ∧ d ≤ 200
theorem BM.kp {w w' : World} {S : List Nat} {A g d : Nat} {f : Nat → Nat → Bool} (h : BM w A g d f) (hk : Kp S w w') (h1 : A ∉ S) (h2 : g ∉ S) : BM w' A g d f := by
  obtain ⟨ws, r, a, b, c, e, k⟩ := h.ex
  exact ⟨ws, r, a, b, c.kp hk h1, e.kp hk h2, k⟩
theorem BM.congr {w : World} {A g d : Nat} {f f' : Nat → Nat → Bool} (h : BM w A g d f) (e : ∀ y x, y < d → x < d → f y x = f' y x) : BM w A g d f' := by
  obtain ⟨ws, r, a, b, c, e', k, l, m⟩ := h.ex
  exact ⟨ws, r, a, b, c, e', k, fun y x hy hx => by rw [l y x hy hx, e y x hy hx], m⟩
theorem bm_ix {d r y x : Nat} (hr : r = (d + 31) / 32) (hy : y < d) (hx : x < d) : y * r + x / 32 < d * r := by
  exact mul_row (by omega) hy
section
variable {w : World} {A g d : Nat} {f : Nat → Nat → Bool}
theorem bmh_any (h : BM w A g d f) :
    Calls Tryz.prog 135 #[.pointer (some ⟨A, 0, none⟩)] w fun e w' => e = .returned (.int .i64 (d : Nat)) ∧ w = w' := by
  obtain ⟨ws, r, -, -, hA, -⟩ := h.ex
  have a0 := hA.cell 1
  simp only [List.getElem?_toArray, List.getElem?_cons_zero, List.getElem?_cons_succ] at a0
  go_enter Tryz.func135, Tryz.ntmps135
  go_wp2
  go_ret
  exact ⟨rfl, rfl⟩
set_option maxHeartbeats 4000000 in
set_option maxRecDepth 100000 in
theorem bmget_any (xn yn : Nat) {x y : Int} (h : BM w A g d f) (hx : x = xn) (hy : y = yn) (hxd : xn < d) (hyd : yn < d) :
    Calls Tryz.prog 137 #[.pointer (some ⟨A, 0, none⟩), .int .i64 x, .int .i64 y] w fun e w' => e = .returned (.bool (f yn xn)) ∧ w = w' := by
  subst hx hy
  obtain ⟨ws, r, hr, hl, hA, hg, hw, ht, h1, h2⟩ := h.ex
  have a0 := hA.cell 0
  have a1 := hA.cell 1
  have a2 := hA.cell 2
  have a3 := hA.cell 3
  simp only [List.getElem?_toArray, List.getElem?_cons_zero, List.getElem?_cons_succ] at a0 a1 a2 a3
  have hix := bm_ix hr hyd hxd
  have hrl : r ≤ 7 := by omega
  have hnr : yn * r ≤ 1400 := Nat.le_trans (Nat.mul_le_mul (show yn ≤ 200 by omega) hrl) (by omega)
  have hdr : d * r ≤ 1400 := Nat.le_trans (Nat.mul_le_mul h2 hrl) (by omega)
  have hcw := hg.cell (yn * r + xn / 32)
  rw [ints_get (by rw [hl]; exact hix)] at hcw
  have hxv : nth ws (yn * r + xn / 32) < 4294967296 := by rw [nth_get (by rw [hl]; exact hix)]; exact hw _ (List.getElem_mem _)
  have htb := ht yn xn hyd hxd
  obtain ⟨n, hn⟩ : ∃ n, n = yn * r := ⟨_, rfl⟩
  obtain ⟨L, hL⟩ : ∃ L, L = d * r := ⟨_, rfl⟩
  have hmul : wrap64 ((yn : Int) * (r : Int)) = ((n : Nat) : Int) := by rw [← Int.natCast_mul, ← hn]; unfold wrap64; omega
  rw [← hn] at hix hnr hcw hxv htb
  rw [← hL] at a3 hix hdr
  obtain ⟨z, hz⟩ : ∃ z, z = nth ws (n + xn / 32) := ⟨_, rfl⟩
  rw [← hz] at hcw hxv htb
  have HTB := Lib.hid htb
  have d1 : decide ((xn : Int) < 0) = false := by simp
  have d2 : decide ((yn : Int) < 0) = false := by simp
  have d3 : decide ((d : Int) ≤ (xn : Int)) = false := by simp; omega
  have d4 : decide ((d : Int) ≤ (yn : Int)) = false := by simp; omega
  clear hz hn hL htb ht hw hl hr
  go_enter Tryz.func137, Tryz.ntmps137
  go_wp2_with fail
  go_ret
  refine ⟨?_, rfl⟩
  show Ending.returned (.bool (bits .and .u32 ((z : Int) / 2 ^ (xn % 32)) 1 != 0)) = _
  have e1 : (z : Int) / 2 ^ (xn % 32) = ((z / 2 ^ (xn % 32) : Nat) : Int) := by rw [Int.natCast_ediv, Int.natCast_pow]; rfl
  have e2 : z / 2 ^ (xn % 32) < 4294967296 := Nat.lt_of_le_of_lt (Nat.div_le_self _ _) hxv
  have e3 := u32_and (z / 2 ^ (xn % 32)) 1 e2 (by omega)
  rw [e1, show bits .and .u32 ((z / 2 ^ (xn % 32) : Nat) : Int) 1 = _ from e3, ← HTB.out, Nat.testBit_eq_decide_div_mod_eq, Nat.and_one_is_mod]
  generalize z / 2 ^ (xn % 32) = u
  apply ret_bool
  by_cases h : u % 2 = 1
  · rw [h]; rfl
  · rw [show u % 2 = 0 by omega]; rfl
set_option maxHeartbeats 4000000 in
set_option maxRecDepth 100000 in
theorem bmset_any (xn yn : Nat) {x y : Int} (h : BM w A g d f) (hx : x = xn) (hy : y = yn) (hxd : xn < d) (hyd : yn < d) :
    Calls Tryz.prog 144 #[.pointer (some ⟨A, 0, none⟩), .int .i64 x, .int .i64 y] w fun e w' => e = .returned (.tuple #[]) ∧ BM w' A g d (fun Y X => if Y = yn ∧ X = xn then true else f Y X) ∧ Kp [g] w w' := by
  subst hx hy
  obtain ⟨ws, r, hr, hl, hA, hg, hw, ht, h1, h2⟩ := h.ex
  have a2 := hA.cell 2
  have a3 := hA.cell 3
  simp only [List.getElem?_toArray, List.getElem?_cons_zero, List.getElem?_cons_succ] at a2 a3
  have hix := bm_ix hr hyd hxd
  have hrl : r ≤ 7 := by omega
  have hnr : yn * r ≤ 1400 := Nat.le_trans (Nat.mul_le_mul (show yn ≤ 200 by omega) hrl) (by omega)
  have hdr : d * r ≤ 1400 := Nat.le_trans (Nat.mul_le_mul h2 hrl) (by omega)
  have hcw := hg.cell (yn * r + xn / 32)
  rw [ints_get (by rw [hl]; exact hix)] at hcw
  have hfw := hg.frozen (yn * r + xn / 32)
  have hxv : nth ws (yn * r + xn / 32) < 4294967296 := by rw [nth_get (by rw [hl]; exact hix)]; exact hw _ (List.getElem_mem _)
  obtain ⟨n, hn⟩ : ∃ n, n = yn * r := ⟨_, rfl⟩
  obtain ⟨L, hL⟩ : ∃ L, L = d * r := ⟨_, rfl⟩
  have hmul : wrap64 ((yn : Int) * (r : Int)) = ((n : Nat) : Int) := by rw [← Int.natCast_mul, ← hn]; unfold wrap64; omega
  have hixl : n + xn / 32 < ws.length := by rw [hl, hn]; exact hix
  rw [← hn] at hix hnr hcw hxv hfw
  rw [← hL] at a3 hix hdr
  obtain ⟨z, hz⟩ : ∃ z, z = nth ws (n + xn / 32) := ⟨_, rfl⟩
  rw [← hz] at hcw hxv
  have HT := Lib.hid ht
  have HW := Lib.hid hw
  have HL := Lib.hid hl
  have HR := Lib.hid hr
  have HN := Lib.hid hn
  have HZ := Lib.hid hz
  clear hz hn hL ht hw hl hr
  go_enter Tryz.func144, Tryz.ntmps144
  go_wp2_with fail
  go_end0
  have h2l := two_pow_lt32 (xn % 32) (by omega)
  rw [two_pow_u32 _ (by omega), u32_or _ _ hxv h2l]
  have hgA : A ≠ g := hA.ne_ hg (by decide)
  have hg2 := hg.set_ (n + xn / 32) (.int .u32 ((z ||| 2 ^ (xn % 32) : Nat) : Int))
  rw [ints_set] at hg2
  refine ⟨rfl, ⟨_, r, HR.out, by rw [List.length_set]; exact HL.out, hA.far (by simpa using hgA) _, hg2, ?_, ?_, h1, h2⟩, (Kp.refl _ _).setCell (by simp) _⟩
  · intro u hu
    rcases List.mem_or_eq_of_mem_set hu with hu | rfl
    · exact HW.out u hu
    · exact Nat.or_lt_two_pow (n := 32) hxv h2l
  · intro Y X hY hX
    have hold := HT.out Y X hY hX
    rw [nth_set hixl]
    by_cases e : Y * r + X / 32 = n + xn / 32
    · rw [if_pos e, HZ.out, ← e]
      obtain ⟨e1, e2⟩ := dm (R := r) (p := Y) (p' := yn) (j := X / 32) (j' := xn / 32) (by have := HR.out; omega) (by have := HR.out; omega) (by rw [e, HN.out])
      subst e1
      rw [Nat.testBit_or, hold, Nat.testBit_two_pow]
      by_cases ex : X = xn
      · subst ex; rw [if_pos ⟨rfl, rfl⟩, decide_eq_true rfl, Bool.or_true]
      · rw [if_neg (fun q => ex q.2), decide_eq_false (by omega), Bool.or_false]
    · rw [if_neg e, hold, if_neg]
      rintro ⟨rfl, rfl⟩
      exact e (by rw [HN.out])
set_option maxHeartbeats 4000000 in
set_option maxRecDepth 100000 in
theorem bmflip_any (xn yn : Nat) {x y : Int} (h : BM w A g d f) (hx : x = xn) (hy : y = yn) (hxd : xn < d) (hyd : yn < d) :
    Calls Tryz.prog 221 #[.pointer (some ⟨A, 0, none⟩), .int .i64 x, .int .i64 y] w fun e w' => e = .returned (.tuple #[]) ∧ BM w' A g d (fun Y X => if Y = yn ∧ X = xn then !(f yn xn) else f Y X) ∧ Kp [g] w w' := by
  subst hx hy
  obtain ⟨ws, r, hr, hl, hA, hg, hw, ht, h1, h2⟩ := h.ex
  have a2 := hA.cell 2
  have a3 := hA.cell 3
  simp only [List.getElem?_toArray, List.getElem?_cons_zero, List.getElem?_cons_succ] at a2 a3
  have hix := bm_ix hr hyd hxd
  have hrl : r ≤ 7 := by omega
  have hnr : yn * r ≤ 1400 := Nat.le_trans (Nat.mul_le_mul (show yn ≤ 200 by omega) hrl) (by omega)
  have hdr : d * r ≤ 1400 := Nat.le_trans (Nat.mul_le_mul h2 hrl) (by omega)
  have hcw := hg.cell (yn * r + xn / 32)
  rw [ints_get (by rw [hl]; exact hix)] at hcw
  have hfw := hg.frozen (yn * r + xn / 32)
  have hxv : nth ws (yn * r + xn / 32) < 4294967296 := by rw [nth_get (by rw [hl]; exact hix)]; exact hw _ (List.getElem_mem _)
  obtain ⟨n, hn⟩ : ∃ n, n = yn * r := ⟨_, rfl⟩
  obtain ⟨L, hL⟩ : ∃ L, L = d * r := ⟨_, rfl⟩
  have hmul : wrap64 ((yn : Int) * (r : Int)) = ((n : Nat) : Int) := by rw [← Int.natCast_mul, ← hn]; unfold wrap64; omega
  have hixl : n + xn / 32 < ws.length := by rw [hl, hn]; exact hix
  rw [← hn] at hix hnr hcw hxv hfw
  rw [← hL] at a3 hix hdr
  obtain ⟨z, hz⟩ : ∃ z, z = nth ws (n + xn / 32) := ⟨_, rfl⟩
  rw [← hz] at hcw hxv
  have HT := Lib.hid ht
  have HW := Lib.hid hw
  have HL := Lib.hid hl
  have HR := Lib.hid hr
  have HN := Lib.hid hn
  have HZ := Lib.hid hz
  clear hz hn hL ht hw hl hr
  go_enter Tryz.func221, Tryz.ntmps221
  go_wp2_with fail
  go_end0
  have h2l := two_pow_lt32 (xn % 32) (by omega)
  rw [two_pow_u32 _ (by omega), u32_xor _ _ hxv h2l]
  have hgA : A ≠ g := hA.ne_ hg (by decide)
  have hg2 := hg.set_ (n + xn / 32) (.int .u32 ((z ^^^ 2 ^ (xn % 32) : Nat) : Int))
  rw [ints_set] at hg2
  refine ⟨rfl, ⟨_, r, HR.out, by rw [List.length_set]; exact HL.out, hA.far (by simpa using hgA) _, hg2, ?_, ?_, h1, h2⟩, (Kp.refl _ _).setCell (by simp) _⟩
  · intro u hu
    rcases List.mem_or_eq_of_mem_set hu with hu | rfl
    · exact HW.out u hu
    · exact Nat.xor_lt_two_pow (n := 32) hxv h2l
  · intro Y X hY hX
    have hold := HT.out Y X hY hX
    rw [nth_set hixl]
    by_cases e : Y * r + X / 32 = n + xn / 32
    · rw [if_pos e, HZ.out, ← e]
      obtain ⟨e1, e2⟩ := dm (R := r) (p := Y) (p' := yn) (j := X / 32) (j' := xn / 32) (by have := HR.out; omega) (by have := HR.out; omega) (by rw [e, HN.out])
      subst e1
      rw [Nat.testBit_xor, hold, Nat.testBit_two_pow]
      by_cases ex : X = xn
      · subst ex; rw [if_pos ⟨rfl, rfl⟩, decide_eq_true rfl, Bool.xor_true]
      · rw [if_neg (fun q => ex q.2), decide_eq_false (by omega), Bool.xor_false]
    · rw [if_neg e, hold, if_neg]
      rintro ⟨rfl, rfl⟩
      exact e (by rw [HN.out])
end
end Go.Proofs.YtcekbhhpcmhicaaGreatDoor
namespace Go.Proofs.YtcekbhhpcmhicaaGreatDoor
open Go.RowKit Go.QW Go.QI
section
variable {w : World} {A g d : Nat} {f : Nat → Nat → Bool}
/-- what is read and what a store of a bit does -/
theorem BM.or_at {xn yn : Nat} (h : BM w A g d f) (hxd : xn < d) (hyd : yn < d) : ∃ r n L z : Nat, r = (d + 31) / 32 ∧ n = yn * r ∧ w.cell? ⟨A, 2, none⟩ = some (.int .i64 r) ∧ w.cell? ⟨A, 3, none⟩ = some (.slice (some ⟨g, 0, none⟩) L L) ∧ r ≤ 7 ∧ n ≤ 1400 ∧ L ≤ 1400 ∧ n + xn / 32 < L ∧ wrap64 ((yn : Int) * (r : Int)) = ((n : Nat) : Int) ∧
    w.cell? ⟨g, n + xn / 32, none⟩ = some (.int .u32 z) ∧ w.frozen? ⟨g, n + xn / 32, none⟩ = false ∧ z < 4294967296 ∧ BM (w.setCell ⟨g, n + xn / 32, none⟩ (.int .u32 ((z ||| 2 ^ (xn % 32) : Nat) : Int))) A g d (fun Y X => if Y = yn ∧ X = xn then true else f Y X) := by
  obtain ⟨ws, r, hr, hl, hA, hg, hw, ht, h1, h2⟩ := h.ex
  have hix := bm_ix hr hyd hxd
  have hrl : r ≤ 7 := by omega
  have hnr : yn * r ≤ 1400 := Nat.le_trans (Nat.mul_le_mul (show yn ≤ 200 by omega) hrl) (by omega)
  have hdr : d * r ≤ 1400 := Nat.le_trans (Nat.mul_le_mul h2 hrl) (by omega)
  have hcw := hg.cell (yn * r + xn / 32)
  rw [ints_get (by rw [hl]; exact hix)] at hcw
  have hxv : nth ws (yn * r + xn / 32) < 4294967296 := by rw [nth_get (by rw [hl]; exact hix)]; exact hw _ (List.getElem_mem _)
  have h2l := two_pow_lt32 (xn % 32) (by omega)
  have hg2 := hg.set_ (yn * r + xn / 32) (.int .u32 ((nth ws (yn * r + xn / 32) ||| 2 ^ (xn % 32) : Nat) : Int))
  rw [ints_set] at hg2
  refine ⟨r, yn * r, d * r, nth ws (yn * r + xn / 32), hr, rfl, hA.cell 2, hA.cell 3, hrl, hnr, hdr, hix, ?_, hcw, hg.frozen _, hxv, ⟨_, r, hr, by rw [List.length_set]; exact hl, hA.far (hA.ne_ hg (by decide)) _, hg2, ?_, ?_, h1, h2⟩⟩
  · rw [← Int.natCast_mul]
    generalize yn * r = n at hnr
    unfold wrap64; omega
  · intro u hu
    rcases List.mem_or_eq_of_mem_set hu with hu | rfl
    · exact hw u hu
    · exact Nat.or_lt_two_pow (n := 32) hxv h2l
  · intro Y X hY hX
    have hold := ht Y X hY hX
    rw [nth_set (by rw [hl]; exact hix)]
    by_cases e : Y * r + X / 32 = yn * r + xn / 32
    · rw [if_pos e, ← e]
      obtain ⟨e1, e2⟩ := dm (R := r) (p := Y) (p' := yn) (j := X / 32) (j' := xn / 32) (by omega) (by omega) e
      subst e1
      rw [Nat.testBit_or, hold, Nat.testBit_two_pow]
      by_cases ex : X = xn
      · subst ex; rw [if_pos ⟨rfl, rfl⟩, decide_eq_true rfl, Bool.or_true]
      · rw [if_neg (fun q => ex q.2), decide_eq_false (by omega), Bool.or_false]
    · rw [if_neg e, hold, if_neg]
      rintro ⟨rfl, rfl⟩
      exact e rfl
set_option maxHeartbeats 4000000 in
set_option maxRecDepth 100000 in
theorem newbm_any (d : Nat) (h1 : 1 ≤ d) (h2 : d ≤ 200) (w : World) :
    Calls Tryz.prog 143 #[.int .i64 d, .int .i64 d] w fun e w' => ∃ A g, e = .returned (.tuple #[.pointer (some ⟨A, 0, none⟩), .nilIface]) ∧ BM w' A g d (fun _ _ => false) ∧ w.heap.size ≤ A ∧ w.heap.size ≤ g ∧ Below w.heap.size w w' := by
  obtain ⟨r, hr⟩ : ∃ r, r = (d + 31) / 32 := ⟨_, rfl⟩
  have hrl : r ≤ 7 := by omega
  obtain ⟨L, hL⟩ : ∃ L, L = d * r := ⟨_, rfl⟩
  have hdr : L ≤ 1400 := by rw [hL]; exact Nat.le_trans (Nat.mul_le_mul h2 hrl) (by omega)
  have hdiv : ((d : Int) + 31) / 32 = ((r : Nat) : Int) := by omega
  have hmul : wrap64 ((r : Int) * (d : Int)) = ((L : Nat) : Int) := by rw [Int.mul_comm, ← Int.natCast_mul, ← hL]; unfold wrap64; omega
  have hmk := make_flat Tryz.underlying184 word_info (by decide) L (L : Int) rfl (by omega)
  have d1 : decide ((d : Int) < 1) = false := by simp; omega
  have HR := Lib.hid hr
  have HL := Lib.hid hL
  clear hr hL
  go_enter Tryz.func143, Tryz.ntmps143
  go_wp2_with fail
  go_ret2
  refine ⟨w.heap.size + 1, w.heap.size, rfl, ⟨List.replicate L 0, r, HR.out, by rw [List.length_replicate, HL.out], ?_, (Blk.new w _ _).alloc _, ?_, ?_, h1, h2⟩, by omega, Nat.le_refl _, ((Below.refl _ _).alloc (Nat.le_refl _) _).alloc (by simp) _⟩
  · have := Blk.new (w.alloc (Obj.cells (ints IntKind.u32 (List.replicate L 0)) 252)) 304 #[.int .i64 d, .int .i64 d, .int .i64 r, .slice (some ⟨w.heap.size, 0, none⟩) L L]
    rw [World.size_alloc] at this
    rw [← HL.out]
    exact this
  · intro x hx
    rw [List.mem_replicate] at hx
    rw [hx.2]; decide
  · intro y x _ _
    rw [nth_replicate, ite_self]; simp
set_option maxRecDepth 100000 in
theorem newsq_any (d : Nat) (h1 : 1 ≤ d) (h2 : d ≤ 200) (w : World) :
    Calls Tryz.prog 269 #[.int .i64 d] w fun e w' => ∃ A g, e = .returned (.tuple #[.pointer (some ⟨A, 0, none⟩), .nilIface]) ∧ BM w' A g d (fun _ _ => false) ∧ w.heap.size ≤ A ∧ w.heap.size ≤ g ∧ Below w.heap.size w w' := by
  go_enter Tryz.func269, Tryz.ntmps269
  go_wp2_with fail
  refine (newbm_any d h1 h2 w).mono ?_
  rintro e w1 ⟨A, g, rfl, h⟩
  go_wp2_with fail
  go_ret2
  exact ⟨A, g, rfl, h⟩
/-- a rectangle of ones -/
def rect (l t wd ht : Nat) (f : Nat → Nat → Bool) : Nat → Nat → Bool := fun Y X => if (t ≤ Y ∧ Y < t + ht) ∧ l ≤ X ∧ X < l + wd then true else f Y X
def rectK (l t wd k j : Nat) (f : Nat → Nat → Bool) : Nat → Nat → Bool := fun Y X => if (t ≤ Y ∧ (Y < t + k ∨ (Y = t + k ∧ X < l + j))) ∧ l ≤ X ∧ X < l + wd then true else f Y X
theorem rectK_put (l t wd k j : Nat) (f : Nat → Nat → Bool) (hj : j < wd) (Y X : Nat) : (if Y = t + k ∧ X = l + j then true else rectK l t wd k j f Y X) = rectK l t wd k (j + 1) f Y X := by
  unfold rectK
  by_cases h : Y = t + k ∧ X = l + j
  · rw [if_pos h, if_pos (by omega)]
  · rw [if_neg h]
    by_cases c : (t ≤ Y ∧ (Y < t + k ∨ (Y = t + k ∧ X < l + j))) ∧ l ≤ X ∧ X < l + wd
    · rw [if_pos c, if_pos (by omega)]
    · rw [if_neg c, if_neg (by omega)]
theorem rectK_row (l t wd k : Nat) (f : Nat → Nat → Bool) (Y X : Nat) : rectK l t wd k wd f Y X = rectK l t wd (k + 1) 0 f Y X := by
  unfold rectK
  by_cases c : (t ≤ Y ∧ (Y < t + k ∨ (Y = t + k ∧ X < l + wd))) ∧ l ≤ X ∧ X < l + wd
  · rw [if_pos c, if_pos (by omega)]
  · rw [if_neg c, if_neg (by omega)]
set_option maxHeartbeats 8000000 in
set_option maxRecDepth 100000 in
theorem region_any (l t wd ht : Nat) {x y a b : Int} (h : BM w A g d f) (hx : x = l) (hy : y = t) (ha : a = wd) (hb : b = ht) (h1 : 1 ≤ wd) (h2 : 1 ≤ ht) (hl : l + wd ≤ d) (htd : t + ht ≤ d) (hd : d ≤ 200) :
    Calls Tryz.prog 270 #[.pointer (some ⟨A, 0, none⟩), .int .i64 x, .int .i64 y, .int .i64 a, .int .i64 b] w fun e w' => e = .returned .nilIface ∧ BM w' A g d (rect l t wd ht f) ∧ Kp [g] w w' := by
  subst hx hy ha hb
  have d1 : decide ((t : Int) < 0) = false := by simp
  have d2 : decide ((l : Int) < 0) = false := by simp
  have d3 : decide ((ht : Int) < 1) = false := by simp; omega
  have d4 : decide ((wd : Int) < 1) = false := by simp; omega
  have d5 : decide ((d : Int) < (t : Int) + (ht : Int)) = false := by simp; omega
  have d6 : decide ((d : Int) < (l : Int) + (wd : Int)) = false := by simp; omega
  obtain ⟨ws, r, -, -, hA, -⟩ := h.ex
  have a0 := hA.cell 0
  have a1 := hA.cell 1
  simp only [List.getElem?_toArray, List.getElem?_cons_zero, List.getElem?_cons_succ] at a0 a1
  clear hA
  go_enter Tryz.func270, Tryz.ntmps270
  go_wp2_with fail
  clear a0 a1
  go_loopw [13] (fun t13 wr => ∃ k yq : Nat, k ≤ ht ∧ (t + k ≤ yq ∧ yq ≤ t + k) ∧ t13 = .int .i64 (yq : Nat) ∧ BM wr A g d (rectK l t wd k 0 f) ∧ Kp [g] w wr) (fun t13 _ => t + ht - (intOf t13).toNat)
  case atStart => exact ⟨0, t, by omega, by omega, rfl, h.congr (fun Y X _ _ => by unfold rectK; rw [if_neg (by omega)]), Kp.refl _ _⟩
  case round =>
    obtain ⟨k, yq, hk, hyq, rfl, hM, hkp⟩ := hrel
    by_cases hlt : k < ht
    · have hda : decide ((yq : Int) < (t : Int) + (ht : Int)) = true := by simp; omega
      obtain ⟨r, n, L, z, hre, hne, c2, c3, hr, hn, hL, hix, hmul, -⟩ := hM.or_at (xn := l) (yn := yq) (by omega) (by omega)
      have HRE := Lib.hid hre
      have HNE := Lib.hid hne
      clear hre hne
      go_wp2_with fail
      try rw [hmul]
      clear c2 c3
      obtain ⟨wo, rfl⟩ : ∃ wo : World, wo = wr := ⟨_, rfl⟩
      go_loopw [15] (fun t15 wr => ∃ j xq : Nat, j ≤ wd ∧ (l + j ≤ xq ∧ xq ≤ l + j) ∧ t15 = .int .i64 (xq : Nat) ∧ BM wr A g d (rectK l t wd k j f) ∧ Kp [g] w wr) (fun t15 _ => l + wd - (intOf t15).toNat)
      case atStart => exact ⟨0, l, by omega, by omega, rfl, hM, hkp⟩
      case round =>
        obtain ⟨j, xq, hj, hxq, rfl, hM, hkp⟩ := hrel
        by_cases hlt2 : j < wd
        · have hdb : decide ((xq : Int) < (l : Int) + (wd : Int)) = true := by simp; omega
          obtain ⟨r2, n2, L2, z, hre, hne, c2, c3, hr2, hn2, hL2, hix2, hmul2, cz, fz, hz, hput⟩ := hM.or_at (xn := xq) (yn := yq) (by omega) (by omega)
          have e1 : r2 = r := by rw [hre, HRE.out]
          subst e1
          have e2 : n2 = n := by rw [hne, HNE.out]
          subst e2
          clear hre hne
          have HPUT := Lib.hid hput
          clear hput hmul hmul2 c2 hr2 hn2
          go_wp2_with fail
          go_roundw
          case rel =>
            refine ⟨j + 1, xq + 1, by omega, by omega, by go_num, ?_, hkp.setCell (by simp) _⟩
            have h2l := two_pow_lt32 (xq % 32) (by omega)
            rw [two_pow_u32 _ (by omega), u32_or _ _ hz h2l]
            refine HPUT.out.congr (fun Y X _ _ => ?_)
            have := rectK_put l t wd k j f hlt2 Y X
            rw [show t + k = yq by omega, show l + j = xq by omega] at this
            exact this
          case measure => simp [intOf]; omega
        · have hje : j = wd := by omega
          have hM' := hM
          rw [hje] at hM'
          have hdb : decide ((xq : Int) < (l : Int) + (wd : Int)) = false := by simp; omega
          clear hje
          go_wp2_with fail
          go_roundw
          case rel => exact ⟨k + 1, yq + 1, by omega, by omega, by go_num, hM'.congr (fun Y X _ _ => rectK_row l t wd k f Y X), hkp⟩
          case measure => simp [intOf]; omega
    · have hke : k = ht := by omega
      have hda : decide ((yq : Int) < (t : Int) + (ht : Int)) = false := by simp; omega
      have hM' := hM
      rw [hke] at hM'
      clear hke
      go_wp2_with fail
      go_ret
      refine ⟨rfl, hM'.congr (fun Y X _ _ => ?_), hkp⟩
      unfold rectK rect
      by_cases c : (t ≤ Y ∧ Y < t + ht) ∧ l ≤ X ∧ X < l + wd
      · rw [if_pos c, if_pos (by omega)]
      · rw [if_neg c, if_neg (by omega)]
end
end Go.Proofs.YtcekbhhpcmhicaaGreatDoor
namespace Go.Proofs.YtcekbhhpcmhicaaGreatDoor
open Go.RowKit Go.QW Go.QI Go.QV
/-- the groups of blocks: all alike, or the last m with one byte more -/
def shapeB (v l : Nat) : Bool :=
  let R := numB (lv v l).2
  let q := dataB v l / R
  let m := dataB v l % R
  decide (1 ≤ R) && decide (R ≤ 100) && decide (1 ≤ q) && decide (q ≤ 200) && (if m = 0 then (lv v l).2 == [(R, q)] else (lv v l).2 == [(R - m, q), (m, q + 1)])
theorem shape_all : ∀ v : Fin 28, ∀ l : Fin 4, 1 ≤ v.val → shapeB v.val l.val = true := by decide +kernel
structure Shape (L : List (Nat × Nat)) (R q m : Nat) : Prop where
  R1 : 1 ≤ R
  R2 : R ≤ 100
  m1 : m < R
  q1 : 1 ≤ q
  q2 : q ≤ 200
  grp : ∀ k i, k < L.length → i < (L.getD k (0, 0)).1 → numB (L.take k) + i < R ∧ dl R q m (numB (L.take k) + i) = (L.getD k (0, 0)).2
  sum : numB L = R
  le : ∀ x, x ∈ L → x.1 ≤ 100 ∧ x.2 ≤ 201
  len : L.length ≤ 2
theorem shape_of (v l : Nat) (h1 : 1 ≤ v) (h2 : v ≤ 27) (hl : l ≤ 3) : Shape (lv v l).2 (numB (lv v l).2) (dataB v l / numB (lv v l).2) (dataB v l % numB (lv v l).2) := by
  have h := shape_all ⟨v, by omega⟩ ⟨l, by omega⟩ h1
  simp only [shapeB, Bool.and_eq_true, decide_eq_true_eq] at h
  obtain ⟨⟨⟨⟨a, b⟩, c⟩, d⟩, e⟩ := h
  obtain ⟨R, hR⟩ : ∃ R, R = numB (lv v l).2 := ⟨_, rfl⟩
  rw [← hR] at a b c d e ⊢
  obtain ⟨q, hq⟩ : ∃ q, q = dataB v l / R := ⟨_, rfl⟩
  have hm : dataB v l % R < R := Nat.mod_lt _ (by omega)
  obtain ⟨m, hme⟩ : ∃ m, m = dataB v l % R := ⟨_, rfl⟩
  rw [← hq] at c d e ⊢
  rw [← hme] at e hm ⊢
  clear hq hme
  obtain ⟨L, hL⟩ : ∃ L, L = (lv v l).2 := ⟨_, rfl⟩
  rw [← hL] at e hR ⊢
  clear hL
  split at e
  · rename_i h0
    rw [beq_iff_eq] at e
    subst e
    subst h0
    refine ⟨a, b, hm, c, d, ?_, hR.symm, ?_, by simp⟩
    · intro k i hk hi
      obtain rfl : k = 0 := by simpa using hk
      simp only [List.getD_eq_getElem?_getD, List.getElem?_cons_zero, Option.getD_some] at hi ⊢
      simp only [List.take_zero, numB, List.map_nil, List.sum_nil, Nat.zero_add]
      exact ⟨hi, by unfold dl; rw [if_neg (by omega)]⟩
    · intro x hx
      simp only [List.mem_cons, List.not_mem_nil, or_false] at hx
      subst hx
      exact ⟨b, by omega⟩
  · rename_i h0
    rw [beq_iff_eq] at e
    subst e
    refine ⟨a, b, hm, c, d, ?_, hR.symm, ?_, by simp⟩
    · intro k i hk hi
      match k, hk with
      | 0, _ =>
        simp only [List.getD_eq_getElem?_getD, List.getElem?_cons_zero, Option.getD_some] at hi ⊢
        simp only [List.take_zero, numB, List.map_nil, List.sum_nil, Nat.zero_add]
        exact ⟨by omega, by unfold dl; rw [if_neg (by omega)]⟩
      | 1, _ =>
        simp only [List.getD_eq_getElem?_getD, List.getElem?_cons_succ, List.getElem?_cons_zero, Option.getD_some] at hi ⊢
        simp only [List.take_succ_cons, List.take_zero, numB, List.map_cons, List.map_nil, List.sum_cons, List.sum_nil, Nat.add_zero]
        exact ⟨by omega, by unfold dl; rw [if_pos (by omega)]⟩
      | k + 2, hk => exact absurd hk (by simp)
    · intro x hx
      simp only [List.mem_cons, List.not_mem_nil, or_false] at hx
      rcases hx with rfl | rfl
      · exact ⟨by simp only; omega, by simp only; omega⟩
      · exact ⟨by simp only; omega, by simp only; omega⟩
/-- pointers to the first n of R blocks -/
def dbArr (R n : Nat) (P : Nat → Nat) : Array Value := ((List.range R).map fun j => if j < n then Value.pointer (some ⟨P j, 0, none⟩) else .pointer none).toArray
theorem dbArr_get {R n j : Nat} {P : Nat → Nat} (h : j < R) : (dbArr R n P)[j]? = some (if j < n then Value.pointer (some ⟨P j, 0, none⟩) else .pointer none) := by
  unfold dbArr
  rw [List.getElem?_toArray, List.getElem?_map, List.getElem?_range h]; rfl
theorem dbArr_set {R n : Nat} {P P' : Nat → Nat} (hP : ∀ j, j < n → P' j = P j) : (dbArr R n P).setIfInBounds n (.pointer (some ⟨P' n, 0, none⟩)) = dbArr R (n + 1) P' := by
  apply Array.ext_getElem?
  intro i
  rw [Array.getElem?_setIfInBounds]
  by_cases hi : i < R
  · rw [dbArr_get hi, dbArr_get hi]
    by_cases e : n = i
    · subst e
      rw [if_pos rfl, if_pos (by simp [dbArr]; exact hi), if_pos (by omega)]
    · rw [if_neg e]
      by_cases h : i < n
      · rw [if_pos h, if_pos (by omega), hP i h]
      · rw [if_neg h, if_neg (by omega)]
  · have h1 : (dbArr R n P)[i]? = none := Array.getElem?_eq_none (by simp [dbArr]; omega)
    have h2 : (dbArr R (n + 1) P')[i]? = none := Array.getElem?_eq_none (by simp [dbArr]; omega)
    rw [h1, h2]
    by_cases e : n = i
    · rw [if_pos e, if_neg (by simp [dbArr]; omega)]
    · rw [if_neg e]
/-- what block j holds when the first o code words are spread -/
def fillC (R q m ec : Nat) (cw : List Nat) (o j : Nat) : List Nat := tab (dl R q m j + ec) (fun p => if rank R q m j p < o then nth cw (rank R q m j p) else 0)
theorem fillC_zero (R q m ec : Nat) (cw : List Nat) (j : Nat) : fillC R q m ec cw 0 j = List.replicate (dl R q m j + ec) 0 := by
  rw [← tab_zero]; exact tab_congr (fun i _ => by rw [if_neg (by omega)])
theorem fillC_put (R q m ec : Nat) (cw : List Nat) (o j p : Nat) (hm : m < R) (hj : j < R) (hr : rank R q m j p = o) : (fillC R q m ec cw o j).set p (nth cw o) = fillC R q m ec cw (o + 1) j := by
  unfold fillC
  rw [tab_set]
  refine tab_congr (fun i _ => ?_)
  by_cases e : i = p
  · subst e; rw [if_pos rfl, hr, if_pos (by omega)]
  · rw [if_neg e]
    have hne : rank R q m j i ≠ o := fun h => e (rank_inj hm hj hj (h.trans hr.symm)).2
    by_cases h : rank R q m j i < o
    · rw [if_pos h, if_pos (by omega)]
    · rw [if_neg h, if_neg (by omega)]
theorem fillC_keep (R q m ec : Nat) (cw : List Nat) (o j j' p : Nat) (hm : m < R) (hj : j < R) (hj' : j' < R) (hne : j' ≠ j) (hr : rank R q m j p = o) : fillC R q m ec cw o j' = fillC R q m ec cw (o + 1) j' := by
  unfold fillC
  refine tab_congr (fun i _ => ?_)
  have hne2 : rank R q m j' i ≠ o := fun h => hne (rank_inj hm hj' hj (h.trans hr.symm)).1
  by_cases h : rank R q m j' i < o
  · rw [if_pos h, if_pos (by omega)]
  · rw [if_neg h, if_neg (by omega)]
/-- n blocks stand, new behind B -/
structure DbS (w0 wr : World) (B RB R q m ec n : Nat) (P G : Nat → Nat) (C : Nat → List Nat) : Prop where
  arr : Blk wr RB 340 (dbArr R n P)
  blk : ∀ j, j < n → Blk wr (P j) 364 #[.int .i64 (dl R q m j : Nat), .slice (some ⟨G j, 0, none⟩) (dl R q m j + ec) (dl R q m j + ec)]
  dat : ∀ j, j < n → Blk wr (G j) 5 (ints .u8 (C j)) ∧ (C j).length = dl R q m j + ec
  inj : ∀ i j, i < j → j < n → G i ≠ G j
  new : ∀ j, j < n → B ≤ G j ∧ B ≤ P j
  newB : B ≤ RB
  below : Below B w0 wr
theorem DbS.kp0 {w0 wr w' : World} {B RB R q m ec n : Nat} {P G : Nat → Nat} {C : Nat → List Nat} (h : DbS w0 wr B RB R q m ec n P G C) (hk : Kp [] wr w') (hB : B ≤ wr.heap.size) : DbS w0 w' B RB R q m ec n P G C :=
  ⟨h.arr.kp hk (by simp), fun j hj => (h.blk j hj).kp hk (by simp), fun j hj => ⟨(h.dat j hj).1.kp hk (by simp), (h.dat j hj).2⟩, h.inj, h.new, h.newB, below_of_kp h.below hk hB (by intro k hk; simp at hk)⟩
theorem DbS.congr {w0 wr : World} {B RB R q m ec n : Nat} {P G : Nat → Nat} {C C' : Nat → List Nat} (h : DbS w0 wr B RB R q m ec n P G C) (e : ∀ j, j < n → C j = C' j) : DbS w0 wr B RB R q m ec n P G C' :=
  ⟨h.arr, h.blk, fun j hj => by rw [← e j hj]; exact h.dat j hj, h.inj, h.new, h.newB, h.below⟩
/-- one more block -/
theorem DbS.more {w0 wr w1 : World} {B RB R q m ec n Pn Gn : Nat} {P G : Nat → Nat} {C : Nat → List Nat} (h : DbS w0 wr B RB R q m ec n P G C) (hB : B ≤ wr.heap.size) (hk : Kp [] wr w1) (hP : Blk w1 Pn 364 #[.int .i64 (dl R q m n : Nat), .slice (some ⟨Gn, 0, none⟩) (dl R q m n + ec) (dl R q m n + ec)])
    (hG : Blk w1 Gn 5 (ints .u8 (List.replicate (dl R q m n + ec) 0))) (hPn : wr.heap.size ≤ Pn) (hGn : wr.heap.size ≤ Gn) (hn : n < R) :
    DbS w0 (w1.setCell ⟨RB, n, none⟩ (.pointer (some ⟨Pn, 0, none⟩))) B RB R q m ec (n + 1) (fun j => if j = n then Pn else P j) (fun j => if j = n then Gn else G j) (fun j => if j = n then List.replicate (dl R q m n + ec) 0 else C j) := by
  have h1 := h.kp0 hk hB
  have harr := h1.arr.set_ n (.pointer (some ⟨Pn, 0, none⟩))
  have e := dbArr_set (R := R) (n := n) (P := P) (P' := fun j => if j = n then Pn else P j) (fun j hj => if_neg (by omega))
  simp only [if_true] at e
  rw [e] at harr
  have hlt : ∀ j, j < n → G j < wr.heap.size := fun j hj => (h.dat j hj).1.lt
  refine ⟨harr, ?_, ?_, ?_, ?_, h.newB, h1.below.setCell h.newB _⟩
  · intro j hj
    by_cases e : j = n
    · subst e
      simp only [if_true]
      exact hP.far (hP.ne_ h1.arr (by decide)) _
    · simp only [if_neg e]
      exact (h1.blk j (by omega)).far ((h1.blk j (by omega)).ne_ h1.arr (by decide)) _
  · intro j hj
    by_cases e : j = n
    · subst e
      simp only [if_true]
      exact ⟨hG.far (hG.ne_ h1.arr (by decide)) _, by simp⟩
    · simp only [if_neg e]
      have hd := h1.dat j (by omega)
      exact ⟨hd.1.far (hd.1.ne_ h1.arr (by decide)) _, hd.2⟩
  · intro i j hij hj
    by_cases e : j = n
    · subst e
      have := hlt i hij
      simp only [if_true, if_neg (show ¬ i = j by omega)]
      omega
    · simp only [if_neg e, if_neg (show ¬ i = n by omega)]
      exact h.inj i j hij (by omega)
  · intro j hj
    by_cases e : j = n
    · simp only [e, if_true]; omega
    · simp only [if_neg e]; exact h.new j (by omega)
/-- one more code word at its place -/
theorem DbS.put {w0 wr : World} {B RB R q m ec o j p : Nat} {P G : Nat → Nat} {cw : List Nat} (h : DbS w0 wr B RB R q m ec R P G (fillC R q m ec cw o)) (hm : m < R) (hj : j < R) (hr : rank R q m j p = o) :
    DbS w0 (wr.setCell ⟨G j, p, none⟩ (.int .u8 (nth cw o : Nat))) B RB R q m ec R P G (fillC R q m ec cw (o + 1)) := by
  obtain ⟨hd, hl⟩ := h.dat j hj
  refine ⟨h.arr.far (h.arr.ne_ hd (by decide)) _, fun i hi => (h.blk i hi).far ((h.blk i hi).ne_ hd (by decide)) _, ?_, h.inj, h.new, h.newB, h.below.setCell (h.new j hj).1 _⟩
  intro i hi
  by_cases e : i = j
  · subst e
    have := hd.set_ p (.int .u8 (nth cw o : Nat))
    rw [ints_set, fillC_put R q m ec cw o i p hm hj hr] at this
    exact ⟨this, by unfold fillC; rw [tab_length]⟩
  · have hne : G i ≠ G j := by
      rcases Nat.lt_or_ge i j with hh | hh
      · exact h.inj i j hh hj
      · exact fun ee => h.inj j i (by omega) hi ee.symm
    have := (h.dat i hi).1.far (p := ⟨G j, p, none⟩) hne (.int .u8 (nth cw o : Nat))
    rw [fillC_keep R q m ec cw o j i p hm hj hi e hr] at this
    exact ⟨this, by unfold fillC; rw [tab_length]⟩
end Go.Proofs.YtcekbhhpcmhicaaGreatDoor
