/- BitArray: AppendBits; BitArray: ToBytes, Xor; The versions: centres of alignment patterns; for each level (L M Q H) check numbers per block and groups (blocks, data bytes). Printed by vtab.py; Versions: NewVersion; Versions: what a version's memory reads; versionOf, one number after the other. Printed by vers.py. -/
import Derived.Test.YtcekbhhpcmhicaaGreatDoorM07
namespace Go.Proofs.YtcekbhhpcmhicaaGreatDoor
open Go.RowKit Go.QW

/-- the k low bits of v, the highest first -/
def bitsOf (k v : Nat) : List Bool := (List.range k).map fun j => v.testBit (k - 1 - j)
theorem bitsOf_length (k v : Nat) : (bitsOf k v).length = k := by simp [bitsOf]
theorem bitsOf_getD (k v j : Nat) (h : j < k) : (bitsOf k v).getD j false = v.testBit (k - 1 - j) := by
  rw [List.getD_eq_getElem?_getD, bitsOf, List.getElem?_map, List.getElem?_range h]; rfl
theorem bitsOf_take (k v j : Nat) (h : j < k) : (bitsOf k v).take (j + 1) = (bitsOf k v).take j ++ [v.testBit (k - 1 - j)] := by
  rw [take_snoc _ _ (by rw [bitsOf_length]; exact h), bitsOf_getD _ _ _ h]

/-- the words of a BitArray whose size is not yet set -/
def WordsOf (w : World) (g m : Nat) (bs : List Bool) : Prop :=
  ∃ ws : List Nat, ws.length = m ∧ Blk w g 252 (ints .u32 ws) ∧ (∀ x, x ∈ ws → x < 4294967296) ∧ ∀ i, (nth ws (i / 32)).testBit (i % 32) = bs.getD i false

set_option maxHeartbeats 2000000 in
set_option maxRecDepth 100000 in
theorem appendBits_any (A g c k v : Nat) (bs : List Bool) (w : World) (h : Bits w A g c bs) (hk : k ≤ 32) (hv : v < 4294967296) (hn : bs.length ≤ 800000) :
    Calls Tryz.prog 101 #[.pointer (some ⟨A, 0, none⟩), .int .i64 v, .int .i64 k] w fun e w' => ∃ g', e = .returned .nilIface ∧ (g' = g ∨ w.heap.size ≤ g') ∧ Bits w' A g' 0 (bs ++ bitsOf k v) ∧ Kp [A, g] w w' := by
  obtain ⟨hAl, hgl, hne⟩ := h.lts
  obtain ⟨ws0, hB, -⟩ := h.ex
  have a1 := hB.cell 1
  simp only [List.getElem?_toArray, List.getElem?_cons_zero, List.getElem?_cons_succ] at a1
  have hlt0 : decide ((k : Int) < 0) = false := by simp
  have hgt32 : decide ((32 : Int) < (k : Int)) = false := by simp; omega
  go_enter Tryz.func101, Tryz.ntmps101
  go_wp2_with fail
  have hcast : (bs.length : Int) + (k : Int) = ((bs.length + k : Nat) : Int) := by omega
  rw [hcast]
  refine (ensure_any A g c (bs.length + k) bs w h (by omega)).mono ?_
  rintro e w1 ⟨g', rfl, hg', hB1, hk1⟩
  have hs1 := hk1.size
  obtain ⟨ws, hA, hg, hl, hc, hm, hw, ht⟩ := hB1.ex
  obtain ⟨m, hm'⟩ : ∃ m, m = ws.length := ⟨_, rfl⟩
  rw [← hm'] at hA hl hc hm
  obtain ⟨n, hnn⟩ : ∃ n, n = bs.length := ⟨_, rfl⟩
  rw [← hnn] at hcast hl hc hA hn a1 ⊢
  have HN := Lib.hid hnn
  have hW0 : WordsOf w1 g' m bs := ⟨ws, hm'.symm, hg, hw, ht⟩
  have hAg : A ≠ g' := hA.ne_ hg (by decide)
  clear hcast hw ht hg hm' hB1 a1 hnn
  go_wp2_with fail
  go_loopw [7, 8] (fun t7 t8 wr => ∃ j s : Nat, j ≤ k ∧ s = n + j ∧ t7 = .int .i64 (s : Nat) ∧ t8 = .int .i64 ((k : Int) - 1 - (j : Int)) ∧ WordsOf wr g' m (bs ++ (bitsOf k v).take j) ∧ Kp [g'] w1 wr) (fun t7 _ _ => n + k - (intOf t7).toNat)
  case atStart => exact ⟨0, n, by omega, rfl, rfl, by simp, by rw [List.take_zero, List.append_nil]; exact hW0, Kp.refl _ _⟩
  case round =>
    obtain ⟨j, s, hj, hs, rfl, rfl, hW, hkr⟩ := hrel
    have hsz := hkr.size
    have hAr := hA.kp hkr (by simpa using hAg)
    have a0 := hAr.cell 0
    have a1 := hAr.cell 1
    have f1 := hAr.frozen 1
    simp only [List.getElem?_toArray, List.getElem?_cons_zero, List.getElem?_cons_succ] at a0 a1
    have hsb : s ≤ 900000 := by omega
    by_cases hlt : j < k
    · obtain ⟨r, hr⟩ : ∃ r : Nat, k = r + 1 + j := ⟨k - 1 - j, by omega⟩
      have hge : decide ((0 : Int) ≤ (k : Int) - 1 - (j : Int)) = true := by simp; omega
      have hrI : (k : Int) - 1 - (j : Int) = (r : Int) := by omega
      rw [hrI] at hge ⊢
      have hr32 : r < 32 := by omega
      have hbit : (bits .and .i64 (v : Int) (wrap64 (2 ^ r)) != 0) = v.testBit r := by
        have e1 : wrap64 ((2 : Int) ^ r) = ((2 ^ r : Nat) : Int) := by
          have := two_pow_lt32 r hr32
          rw [show ((2 : Int)) ^ r = ((2 ^ r : Nat) : Int) by rw [Int.natCast_pow]; rfl]
          generalize (2 : Nat) ^ r = p at this ⊢
          unfold wrap64
          omega
        have := two_pow_lt32 r hr32
        rw [e1, i64_and _ _ (by omega) (by omega), bne, test_and, Bool.not_not]
      have htk := bitsOf_take k v j hlt
      rw [show k - 1 - j = r by omega] at htk
      obtain ⟨ws, hwl, hg, hw, ht⟩ := hW
      have HS := Lib.hid (show s = n + j ∧ s < 32 * m from ⟨hs, by omega⟩)
      cases htb : v.testBit r with
      | false =>
        rw [htb] at hbit htk
        have HTK := Lib.hid htk
        clear htk hs hrI
        go_wp2_with fail
        go_roundw
        case rel =>
          refine ⟨j + 1, s + 1, by omega, by have := HS.out.1; omega, by go_num, by congr 1; omega, ⟨ws, hwl, hg, hw, ?_⟩, hkr⟩
          intro i
          rw [ht, HTK.out, ← List.append_assoc, getD_snoc]
          by_cases e : i = (bs ++ (bitsOf k v).take j).length
          · rw [if_pos e, getD_past _ _ (by omega)]
          · rw [if_neg e]
        case measure => have := HS.out.1; simp [intOf]; omega
      | true =>
        rw [htb] at hbit htk
        have HTK := Lib.hid htk
        have hq : s / 32 < ws.length := by omega
        have hcw := hg.cell (s / 32)
        rw [ints_get hq] at hcw
        have hfw := hg.frozen (s / 32)
        have hand : bits .and .i64 (s : Int) 31 = ((s % 32 : Nat) : Int) := by
          have := i64_and s 31 (by omega) (by omega)
          rw [show s &&& 31 = s % 32 from Nat.and_two_pow_sub_one_eq_mod (n := 5) s] at this
          exact this
        obtain ⟨sr, hsr⟩ : ∃ sr, sr = s % 32 := ⟨_, rfl⟩
        rw [← hsr] at hand
        have hsr32 : sr < 32 := by omega
        have HSR := Lib.hid hsr
        clear htk hs hrI hsr
        go_wp2_with fail
        refine wp_region_quiet_tail 13 (by rfl) (by kernel_rfl) ?_
        simp only [List.take_succ_cons, List.take_zero, List.drop_succ_cons, List.drop_zero]
        repeat (go_big_quiet_step (fail))
        refine wpQuiet_nil ?_
        intro _ hw''
        obtain ⟨nr, rfl⟩ := hw''
        go_wp2_with fail
        go_roundw
        case rel =>
          have hxl : nth ws (s / 32) < 4294967296 := by rw [nth_get hq]; exact hw _ (List.getElem_mem _)
          have h2l := two_pow_lt32 sr hsr32
          rw [two_pow_u32 _ hsr32, u32_or _ _ hxl h2l]
          refine ⟨j + 1, s + 1, by omega, by have := HS.out.1; omega, by go_num, by congr 1; omega, ⟨ws.set (s / 32) (nth ws (s / 32) ||| 2 ^ sr), by rw [List.length_set]; exact hwl, ?_, ?_, ?_⟩, (hkr.drewN nr).setCell (by simp) _⟩
          · have := (hg.drewN nr).set_ (s / 32) (.int .u32 ((nth ws (s / 32) ||| 2 ^ sr : Nat) : Int))
            rw [ints_set] at this
            exact this
          · intro x hx
            rcases List.mem_or_eq_of_mem_set hx with hx | rfl
            · exact hw x hx
            · exact Nat.or_lt_two_pow (n := 32) hxl h2l
          · intro i
            rw [HSR.out, words_set ht s hq, HTK.out, ← List.append_assoc, getD_snoc]
            have hlen : (bs ++ (bitsOf k v).take j).length = s := by rw [List.length_append, List.length_take, bitsOf_length, ← HN.out, HS.out.1]; omega
            rw [hlen]
            by_cases e : i = s
            · rw [if_pos e, decide_eq_true e, Bool.true_or]
            · rw [if_neg e, decide_eq_false e, Bool.false_or]
        case measure => have := HS.out.1; simp [intOf]; omega
    · have hje : j = k := by omega
      subst hje
      have hlt' : decide ((0 : Int) ≤ (j : Int) - 1 - (j : Int)) = false := by simp; omega
      have hj1 : (j : Int) - 1 - (j : Int) = -1 := by omega
      rw [hj1]
      obtain ⟨ws, hwl, hg, hw, ht⟩ := hW
      have HS := Lib.hid hs
      clear hlt' hj1 hs
      go_wp2
      go_ret
      have hs := HS.out
      have hnn := HN.out
      rw [List.take_of_length_le (by rw [bitsOf_length]; exact Nat.le_refl _)] at ht
      have hgA := hg.far (p := ⟨A, 1, none⟩) (Ne.symm hAg) (.int .i64 (s : Nat))
      refine ⟨g', rfl, hg', ⟨ws, ?_, hgA, by rw [List.length_append, bitsOf_length]; omega, by omega, by omega, hw, ht⟩, ?_⟩
      · rw [List.length_append, bitsOf_length, ← hnn, ← hs, hwl]
        exact hAr.set_ 1 (.int .i64 (s : Nat))
      · refine ((hk1.mono (T := [A, g]) (by intro k hk _; simp at hk ⊢; exact .inl hk)).trans hkr ?_).setCell (by simp) _
        intro i hi hlt
        simp only [List.mem_cons, List.not_mem_nil, or_false] at hi ⊢
        subst hi
        rcases hg' with rfl | h
        · exact .inr rfl
        · omega
end Go.Proofs.YtcekbhhpcmhicaaGreatDoor
namespace Go.Proofs.YtcekbhhpcmhicaaGreatDoor
open Go.RowKit Go.QW

def byN (f : Nat → Bool) : Nat → Nat
  | 0 => 0
  | k + 1 => if f k = true then byN f k ||| 2 ^ (7 - k) else byN f k
/-- the byte at bit o -/
def byteAt (bs : List Bool) (o : Nat) : Nat := byN (fun j => bs.getD (o + j) false) 8
theorem byN_lt (f : Nat → Bool) (k : Nat) : byN f k < 256 := by
  induction k with
  | zero => exact (by decide : 0 < 256)
  | succ k ih =>
    unfold byN
    split
    · exact Nat.or_lt_two_pow (n := 8) ih (Nat.pow_lt_pow_right (by decide) (by omega))
    · exact ih
theorem byteAt_lt (bs : List Bool) (o : Nat) : byteAt bs o < 256 := byN_lt _ _
theorem u8_or (a b : Nat) (ha : a < 256) (hb : b < 256) : bits .or .u8 (a : Int) (b : Int) = ((a ||| b : Nat) : Int) := by
  have hx : a ||| b < 2 ^ 8 := Nat.or_lt_two_pow (by omega) (by omega)
  show IntKind.u8.wrap ((BitVec.ofInt 8 (a : Int) ||| BitVec.ofInt 8 (b : Int)).toNat : Int) = _
  rw [BitVec.toNat_or, BitVec.toNat_ofInt, BitVec.toNat_ofInt, show ((a : Int) % ((2 ^ 8 : Nat) : Int)).toNat = a by omega, show ((b : Int) % ((2 ^ 8 : Nat) : Int)).toNat = b by omega, wrap_nat_u8 _ (by omega)]

set_option maxHeartbeats 2000000 in
set_option maxRecDepth 100000 in
theorem toBytes_any (A g c o nb q : Nat) (bs : List Bool) (w : World) (h : Bits w A g c bs) (hq : Blk w q 5 (ints .u8 (List.replicate nb 0))) (ho : o + 8 * nb ≤ bs.length) (hn : bs.length ≤ 800000) :
    Calls Tryz.prog 116 #[.pointer (some ⟨A, 0, none⟩), .int .i64 o, .slice (some ⟨q, 0, none⟩) nb nb, .int .i64 0, .int .i64 nb] w fun e w' => e = .returned (.tuple #[]) ∧ Blk w' q 5 (ints .u8 (tab nb fun i => byteAt bs (o + 8 * i))) ∧ Kp [q] w w' := by
  have hqA : A ≠ q ∧ g ≠ q := by
    obtain ⟨ws, b1, b2, -⟩ := h.ex
    exact ⟨b1.ne_ hq (by decide), b2.ne_ hq (by decide)⟩
  go_enter Tryz.func116, Tryz.ntmps116
  go_wp2_with fail
  go_loopw [1, 10, 11, 12] (fun t1 t10 t11 t12 wr => ∃ i p : Nat, i ≤ nb ∧ p = o + 8 * i ∧ t1 = .int .i64 (p : Nat) ∧ t10 = .int .i64 (i : Nat) ∧ Blk wr q 5 (ints .u8 (tab nb fun j => if j < i then byteAt bs (o + 8 * j) else 0)) ∧ Kp [q] w wr) (fun _ t _ _ _ => nb - (intOf t).toNat)
  case atStart => exact ⟨0, o, by omega, rfl, rfl, rfl, by rw [show (fun j => if j < 0 then byteAt bs (o + 8 * j) else 0) = fun _ => 0 from by funext j; simp, tab_zero]; exact hq, Kp.refl _ _⟩
  case round =>
    obtain ⟨i, p, hi, hp, rfl, rfl, hB, hk⟩ := hrel
    have hbits := h.kp hk (by simpa using hqA.1) (by simpa using hqA.2)
    have hpb : p ≤ 800000 := by omega
    by_cases hlt : i < nb
    · have HP := Lib.hid (show p = o + 8 * i ∧ p + 8 ≤ bs.length from ⟨hp, by omega⟩)
      clear hp
      go_wp2_with fail
      obtain ⟨wo, rfl⟩ : ∃ wo : World, wo = wr := ⟨_, rfl⟩
      go_loopw [1, 11, 12] (fun t1 t11 t12 wr => ∃ j pp : Nat, j ≤ 8 ∧ pp = p + j ∧ t1 = .int .i64 (pp : Nat) ∧ t12 = .int .i64 (j : Nat) ∧ t11 = .int .u8 (byN (fun j => bs.getD (p + j) false) j : Nat) ∧ wr = wo) (fun _ _ t _ => 8 - (intOf t).toNat)
      case atStart => exact ⟨0, p, by omega, rfl, rfl, rfl, rfl, rfl⟩
      case round =>
        obtain ⟨j, pp, hj, hpp, rfl, rfl, rfl, rfl⟩ := hrel
        by_cases hlt2 : j < 8
        · have hppl : pp < bs.length := by have := HP.out.2; omega
          have hyl := byN_lt (fun j => bs.getD (p + j) false) j
          have hsucc : byN (fun j => bs.getD (p + j) false) (j + 1) = if bs.getD pp false = true then byN (fun j => bs.getD (p + j) false) j ||| 2 ^ (7 - j) else byN (fun j => bs.getD (p + j) false) j := by
            rw [hpp]; rfl
          have HSU := Lib.hid hsucc
          have HPP := Lib.hid hpp
          clear hpp hsucc
          obtain ⟨y, hy⟩ : ∃ y, y = byN (fun j => bs.getD (p + j) false) j := ⟨_, rfl⟩
          rw [← hy] at hyl HSU ⊢
          have HY := Lib.hid hy
          clear hy
          go_wp2_with fail
          refine (get_any A g c bs pp _ hbits hppl).mono ?_
          rintro e w2 ⟨rfl, rfl⟩
          cases hb : bs.getD pp false with
          | false =>
            go_wp2_with fail
            go_roundw
            case rel =>
              rw [hb] at HSU
              exact ⟨j + 1, pp + 1, by omega, by have := HPP.out; omega, by go_num, by go_num, by rw [HSU.out, HY.out]; rfl, trivial⟩
            case measure => simp [intOf]; omega
          | true =>
            obtain ⟨r, hr⟩ : ∃ r : Nat, r + j = 7 := ⟨7 - j, by omega⟩
            have hrI : (7 : Int) - (j : Int) = (r : Int) := by omega
            go_wp2_with fail
            go_roundw
            case rel =>
              rw [hb] at HSU
              have h2l : 2 ^ r < 256 := Nat.pow_lt_pow_right (m := r) (n := 8) (by decide) (by omega)
              have h2 : (2 : Int) ^ r % 256 = ((2 ^ r : Nat) : Int) := by
                rw [show ((2 : Int)) ^ r = ((2 ^ r : Nat) : Int) by rw [Int.natCast_pow]; rfl]
                exact Int.emod_eq_of_lt (Int.natCast_nonneg _) (Int.ofNat_lt.2 h2l)
              refine ⟨j + 1, pp + 1, by omega, by have := HPP.out; omega, by go_num, by go_num, ?_, trivial⟩
              rw [h2, u8_or _ _ hyl h2l, HSU.out, show 7 - j = r by omega]; rfl
            case measure => simp [intOf]; omega
        · have hj8 : j = 8 := by omega
          subst hj8
          have hc := hB.cell i
          rw [ints_get (by rw [tab_length]; exact hlt), nth_tab hlt] at hc
          have hfz := hB.frozen i
          go_wp2_with fail
          go_roundw
          case rel =>
            refine ⟨i + 1, pp, by omega, by have := HP.out.1; omega, rfl, by go_num, ?_, hk.setCell (by simp) _⟩
            have := hB.set_ i (.int .u8 ((byN (fun j => bs.getD (p + j) false) 8 : Nat) : Int))
            rw [ints_set, tab_set] at this
            have hby : byN (fun j => bs.getD (p + j) false) 8 = byteAt bs (o + 8 * i) := by rw [HP.out.1]; rfl
            rw [tab_congr (g := fun j => if j = i then byN (fun j => bs.getD (p + j) false) 8 else if j < i then byteAt bs (o + 8 * j) else 0) (fun j _ => by
              by_cases h1 : j = i
              · subst h1; rw [if_pos (Nat.lt_succ_self _), if_pos rfl, hby]
              · rw [if_neg h1]; by_cases h2 : j < i
                · rw [if_pos h2, if_pos (by omega)]
                · rw [if_neg h2, if_neg (by omega)])]
            exact this
          case measure => simp [intOf]; omega
    · have hie : i = nb := by omega
      subst hie
      rw [tab_congr (g := fun j => byteAt bs (o + 8 * j)) (fun j hj => by rw [if_pos hj])] at hB
      go_wp2
      go_end0
      exact ⟨rfl, hB, hk⟩
end Go.Proofs.YtcekbhhpcmhicaaGreatDoor
namespace Go.QV
def aligns : Nat → List Nat
  | 1 => []
  | 2 => [6, 18]
  | 3 => [6, 22]
  | 4 => [6, 26]
  | 5 => [6, 30]
  | 6 => [6, 34]
  | 7 => [6, 22, 38]
  | 8 => [6, 24, 42]
  | 9 => [6, 26, 46]
  | 10 => [6, 28, 50]
  | 11 => [6, 30, 54]
  | 12 => [6, 32, 58]
  | 13 => [6, 34, 62]
  | 14 => [6, 26, 46, 66]
  | 15 => [6, 26, 48, 70]
  | 16 => [6, 26, 50, 74]
  | 17 => [6, 30, 54, 78]
  | 18 => [6, 30, 56, 82]
  | 19 => [6, 30, 58, 86]
  | 20 => [6, 34, 62, 90]
  | 21 => [6, 28, 50, 72, 94]
  | 22 => [6, 26, 50, 74, 98]
  | 23 => [6, 30, 54, 78, 102]
  | 24 => [6, 28, 54, 80, 106]
  | 25 => [6, 32, 58, 84, 110]
  | 26 => [6, 30, 58, 86, 114]
  | 27 => [6, 34, 62, 90, 118]
  | 28 => [6, 26, 50, 74, 98, 122]
  | 29 => [6, 30, 54, 78, 102, 126]
  | 30 => [6, 26, 52, 78, 104, 130]
  | 31 => [6, 30, 56, 82, 108, 134]
  | 32 => [6, 34, 60, 86, 112, 138]
  | 33 => [6, 30, 58, 86, 114, 142]
  | 34 => [6, 34, 62, 90, 118, 146]
  | 35 => [6, 30, 54, 78, 102, 126, 150]
  | 36 => [6, 24, 50, 76, 102, 128, 154]
  | 37 => [6, 28, 54, 80, 106, 132, 158]
  | 38 => [6, 32, 58, 84, 110, 136, 162]
  | 39 => [6, 26, 54, 82, 110, 138, 166]
  | 40 => [6, 30, 58, 86, 114, 142, 170]
  | _ => []
def levels : Nat → List (Nat × List (Nat × Nat))
  | 1 => [(7, [(1, 19)]), (10, [(1, 16)]), (13, [(1, 13)]), (17, [(1, 9)])]
  | 2 => [(10, [(1, 34)]), (16, [(1, 28)]), (22, [(1, 22)]), (28, [(1, 16)])]
  | 3 => [(15, [(1, 55)]), (26, [(1, 44)]), (18, [(2, 17)]), (22, [(2, 13)])]
  | 4 => [(20, [(1, 80)]), (18, [(2, 32)]), (26, [(2, 24)]), (16, [(4, 9)])]
  | 5 => [(26, [(1, 108)]), (24, [(2, 43)]), (18, [(2, 15), (2, 16)]), (22, [(2, 11), (2, 12)])]
  | 6 => [(18, [(2, 68)]), (16, [(4, 27)]), (24, [(4, 19)]), (28, [(4, 15)])]
  | 7 => [(20, [(2, 78)]), (18, [(4, 31)]), (18, [(2, 14), (4, 15)]), (26, [(4, 13), (1, 14)])]
  | 8 => [(24, [(2, 97)]), (22, [(2, 38), (2, 39)]), (22, [(4, 18), (2, 19)]), (26, [(4, 14), (2, 15)])]
  | 9 => [(30, [(2, 116)]), (22, [(3, 36), (2, 37)]), (20, [(4, 16), (4, 17)]), (24, [(4, 12), (4, 13)])]
  | 10 => [(18, [(2, 68), (2, 69)]), (26, [(4, 43), (1, 44)]), (24, [(6, 19), (2, 20)]), (28, [(6, 15), (2, 16)])]
  | 11 => [(20, [(4, 81)]), (30, [(1, 50), (4, 51)]), (28, [(4, 22), (4, 23)]), (24, [(3, 12), (8, 13)])]
  | 12 => [(24, [(2, 92), (2, 93)]), (22, [(6, 36), (2, 37)]), (26, [(4, 20), (6, 21)]), (28, [(7, 14), (4, 15)])]
  | 13 => [(26, [(4, 107)]), (22, [(8, 37), (1, 38)]), (24, [(8, 20), (4, 21)]), (22, [(12, 11), (4, 12)])]
  | 14 => [(30, [(3, 115), (1, 116)]), (24, [(4, 40), (5, 41)]), (20, [(11, 16), (5, 17)]), (24, [(11, 12), (5, 13)])]
  | 15 => [(22, [(5, 87), (1, 88)]), (24, [(5, 41), (5, 42)]), (30, [(5, 24), (7, 25)]), (24, [(11, 12), (7, 13)])]
  | 16 => [(24, [(5, 98), (1, 99)]), (28, [(7, 45), (3, 46)]), (24, [(15, 19), (2, 20)]), (30, [(3, 15), (13, 16)])]
  | 17 => [(28, [(1, 107), (5, 108)]), (28, [(10, 46), (1, 47)]), (28, [(1, 22), (15, 23)]), (28, [(2, 14), (17, 15)])]
  | 18 => [(30, [(5, 120), (1, 121)]), (26, [(9, 43), (4, 44)]), (28, [(17, 22), (1, 23)]), (28, [(2, 14), (19, 15)])]
  | 19 => [(28, [(3, 113), (4, 114)]), (26, [(3, 44), (11, 45)]), (26, [(17, 21), (4, 22)]), (26, [(9, 13), (16, 14)])]
  | 20 => [(28, [(3, 107), (5, 108)]), (26, [(3, 41), (13, 42)]), (30, [(15, 24), (5, 25)]), (28, [(15, 15), (10, 16)])]
  | 21 => [(28, [(4, 116), (4, 117)]), (26, [(17, 42)]), (28, [(17, 22), (6, 23)]), (30, [(19, 16), (6, 17)])]
  | 22 => [(28, [(2, 111), (7, 112)]), (28, [(17, 46)]), (30, [(7, 24), (16, 25)]), (24, [(34, 13)])]
  | 23 => [(30, [(4, 121), (5, 122)]), (28, [(4, 47), (14, 48)]), (30, [(11, 24), (14, 25)]), (30, [(16, 15), (14, 16)])]
  | 24 => [(30, [(6, 117), (4, 118)]), (28, [(6, 45), (14, 46)]), (30, [(11, 24), (16, 25)]), (30, [(30, 16), (2, 17)])]
  | 25 => [(26, [(8, 106), (4, 107)]), (28, [(8, 47), (13, 48)]), (30, [(7, 24), (22, 25)]), (30, [(22, 15), (13, 16)])]
  | 26 => [(28, [(10, 114), (2, 115)]), (28, [(19, 46), (4, 47)]), (28, [(28, 22), (6, 23)]), (30, [(33, 16), (4, 17)])]
  | 27 => [(30, [(8, 122), (4, 123)]), (28, [(22, 45), (3, 46)]), (30, [(8, 23), (26, 24)]), (30, [(12, 15), (28, 16)])]
  | 28 => [(30, [(3, 117), (10, 118)]), (28, [(3, 45), (23, 46)]), (30, [(4, 24), (31, 25)]), (30, [(11, 15), (31, 16)])]
  | 29 => [(30, [(7, 116), (7, 117)]), (28, [(21, 45), (7, 46)]), (30, [(1, 23), (37, 24)]), (30, [(19, 15), (26, 16)])]
  | 30 => [(30, [(5, 115), (10, 116)]), (28, [(19, 47), (10, 48)]), (30, [(15, 24), (25, 25)]), (30, [(23, 15), (25, 16)])]
  | 31 => [(30, [(13, 115), (3, 116)]), (28, [(2, 46), (29, 47)]), (30, [(42, 24), (1, 25)]), (30, [(23, 15), (28, 16)])]
  | 32 => [(30, [(17, 115)]), (28, [(10, 46), (23, 47)]), (30, [(10, 24), (35, 25)]), (30, [(19, 15), (35, 16)])]
  | 33 => [(30, [(17, 115), (1, 116)]), (28, [(14, 46), (21, 47)]), (30, [(29, 24), (19, 25)]), (30, [(11, 15), (46, 16)])]
  | 34 => [(30, [(13, 115), (6, 116)]), (28, [(14, 46), (23, 47)]), (30, [(44, 24), (7, 25)]), (30, [(59, 16), (1, 17)])]
  | 35 => [(30, [(12, 121), (7, 122)]), (28, [(12, 47), (26, 48)]), (30, [(39, 24), (14, 25)]), (30, [(22, 15), (41, 16)])]
  | 36 => [(30, [(6, 121), (14, 122)]), (28, [(6, 47), (34, 48)]), (30, [(46, 24), (10, 25)]), (30, [(2, 15), (64, 16)])]
  | 37 => [(30, [(17, 122), (4, 123)]), (28, [(29, 46), (14, 47)]), (30, [(49, 24), (10, 25)]), (30, [(24, 15), (46, 16)])]
  | 38 => [(30, [(4, 122), (18, 123)]), (28, [(13, 46), (32, 47)]), (30, [(48, 24), (14, 25)]), (30, [(42, 15), (32, 16)])]
  | 39 => [(30, [(20, 117), (4, 118)]), (28, [(40, 47), (7, 48)]), (30, [(43, 24), (22, 25)]), (30, [(10, 15), (67, 16)])]
  | 40 => [(30, [(19, 118), (6, 119)]), (28, [(18, 47), (31, 48)]), (30, [(34, 24), (34, 25)]), (30, [(20, 15), (61, 16)])]
  | _ => []
def sumB (ec : Nat) (bl : List (Nat × Nat)) : Nat := (bl.map fun x => x.1 * (x.2 + ec)).sum
def total (v : Nat) : Nat := match levels v with
  | (ec, bl) :: _ => sumB ec bl
  | [] => 0
end Go.QV
namespace Go.Proofs.YtcekbhhpcmhicaaGreatDoor
open Go.RowKit Go.QW Go.QV

/-- groups of blocks as cells -/
def ecbs (bl : List (Nat × Nat)) : Array Value := (bl.flatMap fun x => [Value.int .i64 (x.1 : Nat), Value.int .i64 (x.2 : Nat)]).toArray
theorem ecbs_size (bl : List (Nat × Nat)) : (ecbs bl).size = 2 * bl.length := by
  unfold ecbs
  rw [List.size_toArray]
  induction bl with
  | nil => rfl
  | cons x l ih => rw [List.flatMap_cons, List.length_append, ih]; simp; omega
theorem ecbs_get (bl : List (Nat × Nat)) (i : Nat) (h : i < bl.length) : (ecbs bl)[2 * i]? = some (.int .i64 ((bl.getD i (0, 0)).1 : Nat)) ∧ (ecbs bl)[2 * i + 1]? = some (.int .i64 ((bl.getD i (0, 0)).2 : Nat)) := by
  unfold ecbs
  rw [List.getElem?_toArray, List.getElem?_toArray]
  induction bl generalizing i with
  | nil => simp at h
  | cons x l ih =>
    cases i with
    | zero => exact ⟨rfl, rfl⟩
    | succ i =>
      have := ih i (by simpa using h)
      rw [List.flatMap_cons, show 2 * (i + 1) = 2 * i + 1 + 1 by omega]
      exact this
theorem count_any (x y : Nat) (w : World) :
    Calls Tryz.prog 121 #[.agg #[.int .i64 x, .int .i64 y]] w fun e w' => e = .returned (.int .i64 x) ∧ Below w.heap.size w w' := by
  go_enter Tryz.func121, Tryz.ntmps121
  go_wp2
  go_ret
  exact ⟨rfl, (Below.refl _ _).alloc (Nat.le_refl _) _⟩
theorem dcw_any (x y : Nat) (w : World) :
    Calls Tryz.prog 189 #[.agg #[.int .i64 x, .int .i64 y]] w fun e w' => e = .returned (.int .i64 y) ∧ Below w.heap.size w w' := by
  go_enter Tryz.func189, Tryz.ntmps189
  go_wp2
  go_ret
  exact ⟨rfl, (Below.refl _ _).alloc (Nat.le_refl _) _⟩

theorem ecper_any (ge o ec : Nat) (w : World) (h : w.cell? ⟨ge, o, none⟩ = some (.int .i64 ec)) :
    Calls Tryz.prog 187 #[.pointer (some ⟨ge, o, none⟩)] w fun e w' => e = .returned (.int .i64 ec) ∧ w = w' := by
  go_enter Tryz.func187, Tryz.ntmps187
  go_wp2
  go_ret
  exact ⟨rfl, rfl⟩
theorem ecblk_any (ge o gs n : Nat) (w : World) (h : w.cell? ⟨ge, o + 1, none⟩ = some (.slice (some ⟨gs, 0, none⟩) n n)) :
    Calls Tryz.prog 188 #[.pointer (some ⟨ge, o, none⟩)] w fun e w' => e = .returned (.slice (some ⟨gs, 0, none⟩) n n) ∧ w = w' := by
  go_enter Tryz.func188, Tryz.ntmps188
  go_wp2
  go_ret
  exact ⟨rfl, rfl⟩
theorem sumB_le (ec : Nat) (l : List (Nat × Nat)) (hec : ec ≤ 100) (hb : ∀ x, x ∈ l → x.1 ≤ 100 ∧ x.2 ≤ 200) : sumB ec l ≤ 30000 * l.length := by
  unfold sumB
  induction l with
  | nil => exact Nat.le_refl _
  | cons x l ih =>
    have h1 := ih (fun y hy => hb y (List.mem_cons_of_mem _ hy))
    have h2 := hb x List.mem_cons_self
    have h3 : x.1 * (x.2 + ec) ≤ 100 * 300 := Nat.mul_le_mul h2.1 (by omega)
    rw [List.map_cons, List.sum_cons, List.length_cons]
    omega
theorem sumB_snoc (ec : Nat) (bl : List (Nat × Nat)) (i : Nat) (h : i < bl.length) : sumB ec (bl.take (i + 1)) = sumB ec (bl.take i) + (bl.getD i (0, 0)).1 * ((bl.getD i (0, 0)).2 + ec) := by
  unfold sumB
  rw [List.take_add_one, List.getElem?_eq_getElem h, List.getD_eq_getElem?_getD, List.getElem?_eq_getElem h]
  simp only [Option.toList, List.map_append, List.sum_append, List.map_cons, List.map_nil, List.sum_cons, List.sum_nil, Option.getD_some, Nat.add_zero]
theorem nv_next {w W w' : World} {k x y : Nat} (hb : Below W.heap.size W w') (hs : W.cell? ⟨k, 0, none⟩ = some (.int .i64 x) ∧ W.cell? ⟨k, 1, none⟩ = some (.int .i64 y) ∧ k < W.heap.size ∧ w.heap.size ≤ W.heap.size ∧ Below w.heap.size w W) :
    w'.cell? ⟨k, 0, none⟩ = some (.int .i64 x) ∧ w'.cell? ⟨k, 1, none⟩ = some (.int .i64 y) ∧ k < w'.heap.size ∧ w.heap.size ≤ w'.heap.size ∧ Below w.heap.size w w' :=
  ⟨(hb.cell (p := ⟨k, 0, none⟩) hs.2.2.1).trans hs.1, (hb.cell (p := ⟨k, 1, none⟩) hs.2.2.1).trans hs.2.1, Nat.lt_of_lt_of_le hs.2.2.1 hb.size, Nat.le_trans hs.2.2.2.1 hb.size, below_trans' hs.2.2.2.2 hb hs.2.2.2.1⟩
set_option maxHeartbeats 2000000 in
set_option maxRecDepth 100000 in
theorem newver_any (v ec gs ge ga la ca : Nat) (bl : List (Nat × Nat)) (cs : Array Value) (n : Nat) (hn : n = bl.length) (w : World) (hE : Blk w ge 201 cs) (h0 : cs[0]? = some (.int .i64 ec)) (h1 : cs[1]? = some (.slice (some ⟨gs, 0, none⟩) n n))
    (hS : Blk w gs 211 (ecbs bl)) (hB : ∀ x, x ∈ bl → x.1 ≤ 100 ∧ x.2 ≤ 200) (hec : ec ≤ 100) (hl : bl.length ≤ 4) :
    Calls Tryz.prog 151 #[.int .i64 v, .slice (some ⟨ga, 0, none⟩) la ca, .slice (some ⟨ge, 0, none⟩) 4 4] w fun e w' => ∃ A, e = .returned (.pointer (some ⟨A, 0, none⟩)) ∧ Blk w' A 141 #[.int .i64 v, .slice (some ⟨ga, 0, none⟩) la ca, .slice (some ⟨ge, 0, none⟩) 4 4, .int .i64 (sumB ec bl : Nat)] ∧ Below w.heap.size w w' ∧ w.heap.size ≤ A := by
  have e0 := (hE.cell 0).trans h0
  have e1 := (hE.cell 1).trans h1
  have hEl := hE.lt
  have hSl := hS.lt
  subst hn
  go_enter Tryz.func151, Tryz.ntmps151
  go_wp2_with fail
  refine (ecper_any ge 0 ec w e0).mono ?_
  rintro e w1 ⟨rfl, rfl⟩
  go_wp2_with fail
  refine (ecblk_any ge 0 gs bl.length w e1).mono ?_
  rintro e w1 ⟨rfl, rfl⟩
  go_wp2_with fail
  go_loopw [7, 11, 20] (fun t7 _ t20 wr => ∃ i : Nat, i ≤ bl.length ∧ t20 = .int .i64 (i : Nat) ∧ t7 = .int .i64 (sumB ec (bl.take i) : Nat) ∧ Below w.heap.size w wr) (fun _ _ t _ => bl.length - (intOf t).toNat)
  case atStart => exact ⟨0, by omega, rfl, rfl, Below.refl _ _⟩
  case round =>
    obtain ⟨i, hi, rfl, rfl, hw⟩ := hrel
    have hsz := hw.size
    by_cases hlt : i < bl.length
    · obtain ⟨c1, c2⟩ := ecbs_get bl i hlt
      obtain ⟨x, hx⟩ : ∃ x, x = bl.getD i (0, 0) := ⟨_, rfl⟩
      rw [← hx] at c1 c2
      have HX := Lib.hid hx
      clear hx
      have d1 := ((hS.below hw hSl).cell (2 * i)).trans c1
      have d2 := ((hS.below hw hSl).cell (2 * i + 1)).trans c2
      rw [Nat.mul_comm 2 i] at d1 d2
      go_wp2_with fail
      have hS0 : (wr.alloc (Obj.cells #[Value.int .i64 (x.1 : Nat), Value.int .i64 (x.2 : Nat)] 211)).drew.cell? ⟨wr.heap.size, 0, none⟩ = some (.int .i64 (x.1 : Nat)) ∧ (wr.alloc (Obj.cells #[Value.int .i64 (x.1 : Nat), Value.int .i64 (x.2 : Nat)] 211)).drew.cell? ⟨wr.heap.size, 1, none⟩ = some (.int .i64 (x.2 : Nat)) ∧ wr.heap.size < (wr.alloc (Obj.cells #[Value.int .i64 (x.1 : Nat), Value.int .i64 (x.2 : Nat)] 211)).drew.heap.size ∧ w.heap.size ≤ (wr.alloc (Obj.cells #[Value.int .i64 (x.1 : Nat), Value.int .i64 (x.2 : Nat)] 211)).drew.heap.size ∧ Below w.heap.size w (wr.alloc (Obj.cells #[Value.int .i64 (x.1 : Nat), Value.int .i64 (x.2 : Nat)] 211)).drew :=
        ⟨(Blk.new wr _ _).cell 0, (Blk.new wr _ _).cell 1, (Blk.new wr _ _).lt, Nat.le_trans hsz (Nat.le_of_lt (Blk.new wr 211 #[Value.int .i64 (x.1 : Nat), Value.int .i64 (x.2 : Nat)]).lt), (hw.alloc hsz _).drew⟩
      go_region_held3 (fun w' => w'.cell? ⟨wr.heap.size, 0, none⟩ = some (.int .i64 (x.1 : Nat)) ∧ w'.cell? ⟨wr.heap.size, 1, none⟩ = some (.int .i64 (x.2 : Nat)) ∧ wr.heap.size < w'.heap.size ∧ w.heap.size ≤ w'.heap.size ∧ Below w.heap.size w w') (first | assumption | go_keep) (first | (go_at_call 121; refine (count_any _ _ _).mono ?_; rintro e w' ⟨rfl, hb⟩; have hS1 := nv_next hb (by assumption)) | (go_at_call 189; refine (dcw_any _ _ _).mono ?_; rintro e w' ⟨rfl, hb⟩; have hS1 := nv_next hb (by assumption)))
      obtain ⟨-, -, -, hs1, hw1⟩ := hS1
      have hval : IntKind.i64.wrap (((sumB ec (bl.take i) : Nat) : Int) + IntKind.i64.wrap ((x.1 : Int) * IntKind.i64.wrap ((x.2 : Int) + (ec : Int)))) = ((sumB ec (bl.take (i + 1)) : Nat) : Int) := by
        have hm : x ∈ bl := by
          rw [HX.out, List.getD_eq_getElem?_getD, List.getElem?_eq_getElem hlt]
          exact List.getElem_mem hlt
        have hxb := hB x hm
        have hsb := sumB_le ec (bl.take i) hec (fun y hy => hB y (List.mem_of_mem_take hy))
        have hsl : (bl.take i).length ≤ 4 := by rw [List.length_take]; omega
        have h3 : x.1 * (x.2 + ec) ≤ 100 * 300 := Nat.mul_le_mul hxb.1 (by omega)
        rw [show (x.2 : Int) + (ec : Int) = ((x.2 + ec : Nat) : Int) by omega, wrap_nat_i64 _ (by omega), ← Int.natCast_mul, wrap_nat_i64 _ (by omega), ← Int.natCast_add, wrap_nat_i64 _ (by omega), sumB_snoc ec bl i hlt, ← HX.out]
      rw [hval]
      clear hval
      go_wp2
      go_roundw
      case rel => exact ⟨i + 1, by omega, by go_num, rfl, hw1⟩
      case measure => simp [intOf]; omega
    · have hie : i = bl.length := by omega
      subst hie
      rw [List.take_length]
      go_wp2
      go_ret
      exact ⟨_, rfl, Blk.new _ _ _, hw.alloc hsz _, hsz⟩
end Go.Proofs.YtcekbhhpcmhicaaGreatDoor
namespace Go.Proofs.YtcekbhhpcmhicaaGreatDoor
open Go.RowKit Go.QW Go.QGF Go.QV

def lvCells (g0 g1 g2 g3 : Nat) (L0 L1 L2 L3 : Nat × List (Nat × Nat)) : Array Value :=
  #[.int .i64 (L0.1 : Nat), .slice (some ⟨g0, 0, none⟩) L0.2.length L0.2.length, .int .i64 (L1.1 : Nat), .slice (some ⟨g1, 0, none⟩) L1.2.length L1.2.length,
    .int .i64 (L2.1 : Nat), .slice (some ⟨g2, 0, none⟩) L2.2.length L2.2.length, .int .i64 (L3.1 : Nat), .slice (some ⟨g3, 0, none⟩) L3.2.length L3.2.length]
/-- block A is version v -/
structure Ver (w : World) (A v : Nat) : Prop where
  mk' ::
  ex : ∃ ga ge g0 g1 g2 g3 : Nat, ∃ L0 L1 L2 L3 : Nat × List (Nat × Nat), levels v = [L0, L1, L2, L3] ∧
    Blk w A 141 #[.int .i64 v, .slice (some ⟨ga, 0, none⟩) (aligns v).length (aligns v).length, .slice (some ⟨ge, 0, none⟩) 4 4, .int .i64 (total v : Nat)] ∧
    Blk w ga 3 (ints .i64 (aligns v)) ∧ Blk w ge 201 (lvCells g0 g1 g2 g3 L0 L1 L2 L3) ∧
    Blk w g0 211 (ecbs L0.2) ∧ Blk w g1 211 (ecbs L1.2) ∧ Blk w g2 211 (ecbs L2.2) ∧ Blk w g3 211 (ecbs L3.2)
theorem Ver.below {w w' : World} {A v : Nat} (h : Ver w A v) (hb : Below w.heap.size w w') : Ver w' A v := by
  obtain ⟨ga, ge, g0, g1, g2, g3, L0, L1, L2, L3, hl, h1, h2, h3, h4, h5, h6, h7⟩ := h.ex
  exact ⟨ga, ge, g0, g1, g2, g3, L0, L1, L2, L3, hl, h1.below hb h1.lt, h2.below hb h2.lt, h3.below hb h3.lt, h4.below hb h4.lt, h5.below hb h5.lt, h6.below hb h6.lt, h7.below hb h7.lt⟩
theorem Ver.kp {w w' : World} {S : List Nat} {A v : Nat} (h : Ver w A v) (hk : Kp S w w') (ho : Off w S [3, 141, 201, 211]) : Ver w' A v := by
  obtain ⟨ga, ge, g0, g1, g2, g3, L0, L1, L2, L3, hl, h1, h2, h3, h4, h5, h6, h7⟩ := h.ex
  exact ⟨ga, ge, g0, g1, g2, g3, L0, L1, L2, L3, hl, h1.kp hk (fun hS => ho _ hS _ _ h1 (by simp)), h2.kp hk (fun hS => ho _ hS _ _ h2 (by simp)), h3.kp hk (fun hS => ho _ hS _ _ h3 (by simp)), h4.kp hk (fun hS => ho _ hS _ _ h4 (by simp)), h5.kp hk (fun hS => ho _ hS _ _ h5 (by simp)), h6.kp hk (fun hS => ho _ hS _ _ h6 (by simp)), h7.kp hk (fun hS => ho _ hS _ _ h7 (by simp))⟩

/-- six blocks, one after the other -/
def six (w : World) (a g0 g1 g2 g3 e : Array Value) : World :=
  (((((w.alloc (.cells a 3)).alloc (.cells g0 211)).alloc (.cells g1 211)).alloc (.cells g2 211)).alloc (.cells g3 211)).alloc (.cells e 201)
theorem six_blk (w : World) (a g0 g1 g2 g3 e : Array Value) :
    Blk (six w a g0 g1 g2 g3 e) w.heap.size 3 a ∧ Blk (six w a g0 g1 g2 g3 e) (w.heap.size + 1) 211 g0 ∧ Blk (six w a g0 g1 g2 g3 e) (w.heap.size + 1 + 1) 211 g1 ∧
    Blk (six w a g0 g1 g2 g3 e) (w.heap.size + 1 + 1 + 1) 211 g2 ∧ Blk (six w a g0 g1 g2 g3 e) (w.heap.size + 1 + 1 + 1 + 1) 211 g3 ∧ Blk (six w a g0 g1 g2 g3 e) (w.heap.size + 1 + 1 + 1 + 1 + 1) 201 e ∧ Below w.heap.size w (six w a g0 g1 g2 g3 e) := by
  unfold six
  have e1 := World.size_alloc w (.cells a 3)
  have e2 := World.size_alloc (w.alloc (.cells a 3)) (.cells g0 211)
  have e3 := World.size_alloc ((w.alloc (.cells a 3)).alloc (.cells g0 211)) (.cells g1 211)
  have e4 := World.size_alloc (((w.alloc (.cells a 3)).alloc (.cells g0 211)).alloc (.cells g1 211)) (.cells g2 211)
  have e5 := World.size_alloc ((((w.alloc (.cells a 3)).alloc (.cells g0 211)).alloc (.cells g1 211)).alloc (.cells g2 211)) (.cells g3 211)
  rw [e1] at e2; rw [e2] at e3; rw [e3] at e4; rw [e4] at e5
  refine ⟨(((((Blk.new w _ _).alloc _).alloc _).alloc _).alloc _).alloc _, ?_, ?_, ?_, ?_, ?_, ?_⟩
  · rw [← e1]; exact ((((Blk.new _ _ _).alloc _).alloc _).alloc _).alloc _
  · rw [← e2]; exact (((Blk.new _ _ _).alloc _).alloc _).alloc _
  · rw [← e3]; exact ((Blk.new _ _ _).alloc _).alloc _
  · rw [← e4]; exact (Blk.new _ _ _).alloc _
  · rw [← e5]; exact Blk.new _ _ _
  · exact ((((((Below.refl _ _).alloc (Nat.le_refl _) _).alloc (by omega) _).alloc (by omega) _).alloc (by omega) _).alloc (by omega) _).alloc (by omega) _

theorem ver_fin (v : Nat) (L0 L1 L2 L3 : Nat × List (Nat × Nat)) (hl : levels v = [L0, L1, L2, L3]) (hb : ∀ x, x ∈ L0.2 → x.1 ≤ 100 ∧ x.2 ≤ 200) (hec : L0.1 ≤ 100) (h4 : L0.2.length ≤ 4) (n _n0 : Nat) (hn : n = (aligns v).length) (_hn0 : _n0 = L0.2.length) (a g0 g1 g2 g3 ec : Array Value)
    (w : World) (ha : a = ints .i64 (aligns v)) (hg0 : g0 = ecbs L0.2) (hg1 : g1 = ecbs L1.2) (hg2 : g2 = ecbs L2.2) (hg3 : g3 = ecbs L3.2)
    (he : ec = lvCells (w.heap.size + 1) (w.heap.size + 1 + 1) (w.heap.size + 1 + 1 + 1) (w.heap.size + 1 + 1 + 1 + 1) L0 L1 L2 L3) :
    Calls Tryz.prog 151 #[.int .i64 v, .slice (some ⟨w.heap.size, 0, none⟩) n n, .slice (some ⟨w.heap.size + 1 + 1 + 1 + 1 + 1, 0, none⟩) 4 4] (six w a g0 g1 g2 g3 ec)
      fun e w' => ∃ A, e = .returned (.pointer (some ⟨A, 0, none⟩)) ∧ Ver w' A v ∧ Below w.heap.size w w' ∧ w.heap.size ≤ A := by
  obtain ⟨b1, b2, b3, b4, b5, b6, hB⟩ := six_blk w a g0 g1 g2 g3 ec
  subst hn
  refine (newver_any v L0.1 (w.heap.size + 1) (w.heap.size + 1 + 1 + 1 + 1 + 1) w.heap.size _ _ L0.2 ec _ rfl _ b6 (by rw [he]; rfl) (by rw [he]; rfl) (by rw [← hg0]; exact b2) hb hec h4).mono ?_
  rintro e w' ⟨A, rfl, hA, hb', hA'⟩
  have hs := hB.size
  have htot : total v = sumB L0.1 L0.2 := by unfold total; rw [hl]
  rw [← htot] at hA
  subst ha hg0 hg1 hg2 hg3 he
  exact ⟨A, rfl, ⟨_, _, _, _, _, _, L0, L1, L2, L3, hl, hA, b1.below hb' b1.lt, b6.below hb' b6.lt, b2.below hb' b2.lt, b3.below hb' b3.lt, b4.below hb' b4.lt, b5.below hb' b5.lt⟩, below_trans' hB hb' hs, by omega⟩
end Go.Proofs.YtcekbhhpcmhicaaGreatDoor
namespace Go.Proofs.YtcekbhhpcmhicaaGreatDoor
open Go.RowKit Go.QW Go.QGF Go.QV
set_option maxHeartbeats 4000000 in
set_option maxRecDepth 100000 in
theorem ver_1 (w : World) :
    Calls Tryz.prog 107 #[.int .i64 1] w fun e w' => ∃ A, e = .returned (.pointer (some ⟨A, 0, none⟩)) ∧ Ver w' A 1 ∧ Below w.heap.size w w' ∧ w.heap.size ≤ A := by
  go_enter Tryz.func107, Tryz.ntmps107
  go_wp2_with fail
  refine (ver_fin 1 (7, [(1, 19)]) (10, [(1, 16)]) (13, [(1, 13)]) (17, [(1, 9)]) rfl (by decide) (by decide) (by decide) 0 1 rfl rfl _ _ _ _ _ _ w rfl rfl rfl rfl rfl rfl).mono ?_
  rintro e w1 ⟨A, rfl, h⟩
  go_wp2_with fail
  go_ret
  exact ⟨A, rfl, h⟩
set_option maxHeartbeats 4000000 in
set_option maxRecDepth 100000 in
theorem ver_2 (w : World) :
    Calls Tryz.prog 107 #[.int .i64 2] w fun e w' => ∃ A, e = .returned (.pointer (some ⟨A, 0, none⟩)) ∧ Ver w' A 2 ∧ Below w.heap.size w w' ∧ w.heap.size ≤ A := by
  go_enter Tryz.func107, Tryz.ntmps107
  go_wp2_with fail
  refine (ver_fin 2 (10, [(1, 34)]) (16, [(1, 28)]) (22, [(1, 22)]) (28, [(1, 16)]) rfl (by decide) (by decide) (by decide) 2 1 rfl rfl _ _ _ _ _ _ w rfl rfl rfl rfl rfl rfl).mono ?_
  rintro e w1 ⟨A, rfl, h⟩
  go_wp2_with fail
  go_ret
  exact ⟨A, rfl, h⟩
set_option maxHeartbeats 4000000 in
set_option maxRecDepth 100000 in
theorem ver_3 (w : World) :
    Calls Tryz.prog 107 #[.int .i64 3] w fun e w' => ∃ A, e = .returned (.pointer (some ⟨A, 0, none⟩)) ∧ Ver w' A 3 ∧ Below w.heap.size w w' ∧ w.heap.size ≤ A := by
  go_enter Tryz.func107, Tryz.ntmps107
  go_wp2_with fail
  refine (ver_fin 3 (15, [(1, 55)]) (26, [(1, 44)]) (18, [(2, 17)]) (22, [(2, 13)]) rfl (by decide) (by decide) (by decide) 2 1 rfl rfl _ _ _ _ _ _ w rfl rfl rfl rfl rfl rfl).mono ?_
  rintro e w1 ⟨A, rfl, h⟩
  go_wp2_with fail
  go_ret
  exact ⟨A, rfl, h⟩
set_option maxHeartbeats 4000000 in
set_option maxRecDepth 100000 in
theorem ver_4 (w : World) :
    Calls Tryz.prog 107 #[.int .i64 4] w fun e w' => ∃ A, e = .returned (.pointer (some ⟨A, 0, none⟩)) ∧ Ver w' A 4 ∧ Below w.heap.size w w' ∧ w.heap.size ≤ A := by
  go_enter Tryz.func107, Tryz.ntmps107
  go_wp2_with fail
  refine (ver_fin 4 (20, [(1, 80)]) (18, [(2, 32)]) (26, [(2, 24)]) (16, [(4, 9)]) rfl (by decide) (by decide) (by decide) 2 1 rfl rfl _ _ _ _ _ _ w rfl rfl rfl rfl rfl rfl).mono ?_
  rintro e w1 ⟨A, rfl, h⟩
  go_wp2_with fail
  go_ret
  exact ⟨A, rfl, h⟩
set_option maxHeartbeats 4000000 in
set_option maxRecDepth 100000 in
theorem ver_5 (w : World) :
    Calls Tryz.prog 107 #[.int .i64 5] w fun e w' => ∃ A, e = .returned (.pointer (some ⟨A, 0, none⟩)) ∧ Ver w' A 5 ∧ Below w.heap.size w w' ∧ w.heap.size ≤ A := by
  go_enter Tryz.func107, Tryz.ntmps107
  go_wp2_with fail
  refine (ver_fin 5 (26, [(1, 108)]) (24, [(2, 43)]) (18, [(2, 15), (2, 16)]) (22, [(2, 11), (2, 12)]) rfl (by decide) (by decide) (by decide) 2 1 rfl rfl _ _ _ _ _ _ w rfl rfl rfl rfl rfl rfl).mono ?_
  rintro e w1 ⟨A, rfl, h⟩
  go_wp2_with fail
  go_ret
  exact ⟨A, rfl, h⟩
set_option maxHeartbeats 4000000 in
set_option maxRecDepth 100000 in
theorem ver_6 (w : World) :
    Calls Tryz.prog 107 #[.int .i64 6] w fun e w' => ∃ A, e = .returned (.pointer (some ⟨A, 0, none⟩)) ∧ Ver w' A 6 ∧ Below w.heap.size w w' ∧ w.heap.size ≤ A := by
  go_enter Tryz.func107, Tryz.ntmps107
  go_wp2_with fail
  refine (ver_fin 6 (18, [(2, 68)]) (16, [(4, 27)]) (24, [(4, 19)]) (28, [(4, 15)]) rfl (by decide) (by decide) (by decide) 2 1 rfl rfl _ _ _ _ _ _ w rfl rfl rfl rfl rfl rfl).mono ?_
  rintro e w1 ⟨A, rfl, h⟩
  go_wp2_with fail
  go_ret
  exact ⟨A, rfl, h⟩
set_option maxHeartbeats 4000000 in
set_option maxRecDepth 100000 in
theorem ver_7 (w : World) :
    Calls Tryz.prog 107 #[.int .i64 7] w fun e w' => ∃ A, e = .returned (.pointer (some ⟨A, 0, none⟩)) ∧ Ver w' A 7 ∧ Below w.heap.size w w' ∧ w.heap.size ≤ A := by
  go_enter Tryz.func107, Tryz.ntmps107
  go_wp2_with fail
  refine (ver_fin 7 (20, [(2, 78)]) (18, [(4, 31)]) (18, [(2, 14), (4, 15)]) (26, [(4, 13), (1, 14)]) rfl (by decide) (by decide) (by decide) 3 1 rfl rfl _ _ _ _ _ _ w rfl rfl rfl rfl rfl rfl).mono ?_
  rintro e w1 ⟨A, rfl, h⟩
  go_wp2_with fail
  go_ret
  exact ⟨A, rfl, h⟩
set_option maxHeartbeats 4000000 in
set_option maxRecDepth 100000 in
theorem ver_8 (w : World) :
    Calls Tryz.prog 107 #[.int .i64 8] w fun e w' => ∃ A, e = .returned (.pointer (some ⟨A, 0, none⟩)) ∧ Ver w' A 8 ∧ Below w.heap.size w w' ∧ w.heap.size ≤ A := by
  go_enter Tryz.func107, Tryz.ntmps107
  go_wp2_with fail
  refine (ver_fin 8 (24, [(2, 97)]) (22, [(2, 38), (2, 39)]) (22, [(4, 18), (2, 19)]) (26, [(4, 14), (2, 15)]) rfl (by decide) (by decide) (by decide) 3 1 rfl rfl _ _ _ _ _ _ w rfl rfl rfl rfl rfl rfl).mono ?_
  rintro e w1 ⟨A, rfl, h⟩
  go_wp2_with fail
  go_ret
  exact ⟨A, rfl, h⟩
set_option maxHeartbeats 4000000 in
set_option maxRecDepth 100000 in
theorem ver_9 (w : World) :
    Calls Tryz.prog 107 #[.int .i64 9] w fun e w' => ∃ A, e = .returned (.pointer (some ⟨A, 0, none⟩)) ∧ Ver w' A 9 ∧ Below w.heap.size w w' ∧ w.heap.size ≤ A := by
  go_enter Tryz.func107, Tryz.ntmps107
  go_wp2_with fail
  refine (ver_fin 9 (30, [(2, 116)]) (22, [(3, 36), (2, 37)]) (20, [(4, 16), (4, 17)]) (24, [(4, 12), (4, 13)]) rfl (by decide) (by decide) (by decide) 3 1 rfl rfl _ _ _ _ _ _ w rfl rfl rfl rfl rfl rfl).mono ?_
  rintro e w1 ⟨A, rfl, h⟩
  go_wp2_with fail
  go_ret
  exact ⟨A, rfl, h⟩
set_option maxHeartbeats 4000000 in
set_option maxRecDepth 100000 in
theorem ver_10 (w : World) :
    Calls Tryz.prog 107 #[.int .i64 10] w fun e w' => ∃ A, e = .returned (.pointer (some ⟨A, 0, none⟩)) ∧ Ver w' A 10 ∧ Below w.heap.size w w' ∧ w.heap.size ≤ A := by
  go_enter Tryz.func107, Tryz.ntmps107
  go_wp2_with fail
  refine (ver_fin 10 (18, [(2, 68), (2, 69)]) (26, [(4, 43), (1, 44)]) (24, [(6, 19), (2, 20)]) (28, [(6, 15), (2, 16)]) rfl (by decide) (by decide) (by decide) 3 2 rfl rfl _ _ _ _ _ _ w rfl rfl rfl rfl rfl rfl).mono ?_
  rintro e w1 ⟨A, rfl, h⟩
  go_wp2_with fail
  go_ret
  exact ⟨A, rfl, h⟩
set_option maxHeartbeats 4000000 in
set_option maxRecDepth 100000 in
theorem ver_11 (w : World) :
    Calls Tryz.prog 107 #[.int .i64 11] w fun e w' => ∃ A, e = .returned (.pointer (some ⟨A, 0, none⟩)) ∧ Ver w' A 11 ∧ Below w.heap.size w w' ∧ w.heap.size ≤ A := by
  go_enter Tryz.func107, Tryz.ntmps107
  go_wp2_with fail
  refine (ver_fin 11 (20, [(4, 81)]) (30, [(1, 50), (4, 51)]) (28, [(4, 22), (4, 23)]) (24, [(3, 12), (8, 13)]) rfl (by decide) (by decide) (by decide) 3 1 rfl rfl _ _ _ _ _ _ w rfl rfl rfl rfl rfl rfl).mono ?_
  rintro e w1 ⟨A, rfl, h⟩
  go_wp2_with fail
  go_ret
  exact ⟨A, rfl, h⟩
end Go.Proofs.YtcekbhhpcmhicaaGreatDoor
