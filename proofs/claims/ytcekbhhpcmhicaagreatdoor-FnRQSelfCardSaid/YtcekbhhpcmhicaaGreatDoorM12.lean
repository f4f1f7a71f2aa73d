/- The Reed-Solomon decoder over a block without errors; BitArray of a known number of words: AppendBits without growth; Xor of two; Check bits of format and version: calculateBCHCode; The order in which the cells of a square are visited: pairs of columns from the right, up and down by turns, column 6 left out; Squares of cells as functions of row and column: what is painted. -/
import Derived.Test.YtcekbhhpcmhicaaGreatDoorM06
import Derived.Test.YtcekbhhpcmhicaaGreatDoorM08
import Derived.Test.YtcekbhhpcmhicaaGreatDoorM11
import Derived.Deep.LoopGhost
import Derived.KernelRfl
namespace Go.Proofs.YtcekbhhpcmhicaaGreatDoor
open Go.RowKit Go.QW Go.QGF

theorem exp_quiet (F : Nat) (a : Int) (w : World) (n : Nat) (hF : Field w F) (ha : 0 ≤ a) (ha' : a < 256) :
    Calls Tryz.prog 225 #[.pointer (some ⟨F, 0, none⟩), .int .i64 a] (w.drewN n) fun e w'' => e = .returned (.int .i64 (ex a.toNat : Nat)) ∧ ∃ m, w'' = w.drewN m :=
  Calls.quiet_of_same ((exp_any F a (w.drewN n) (hF.heap rfl) ha ha').mono fun _ _ h => ⟨h.1, h.2.symm⟩)
theorem base_quiet (F : Nat) (w : World) (n : Nat) (hF : Field w F) :
    Calls Tryz.prog 226 #[.pointer (some ⟨F, 0, none⟩)] (w.drewN n) fun e w'' => e = .returned (.int .i64 0) ∧ ∃ m, w'' = w.drewN m :=
  Calls.quiet_of_same ((base_any F (w.drewN n) (hF.heap rfl)).mono fun _ _ h => ⟨h.1, h.2.symm⟩)
theorem eval_quiet (F p : Nat) (a : Int) (cs : List Nat) (w : World) (n : Nat) (hF : Field w F) (hp : Poly w F p cs) (ok : Ok cs) (hl : 1 ≤ cs.length) (hl2 : cs.length ≤ 10000) (ha : 1 ≤ a) (ha2 : a < 256) :
    Calls Tryz.prog 272 #[.pointer (some ⟨p, 0, none⟩), .int .i64 a] (w.drewN n) fun e w'' => e = .returned (.int .i64 (ev a.toNat cs : Nat)) ∧ ∃ m, w'' = w.drewN m := by
  obtain ⟨a, rfl⟩ := Int.eq_ofNat_of_zero_le (show 0 ≤ a by omega)
  rw [Int.toNat_natCast]
  exact Calls.quiet_of (eval_any F p a cs _ (hF.heap rfl) (hp.heap rfl) ok hl hl2 (by omega) (by omega))

theorem exp_quietN (F i : Nat) (w : World) (n : Nat) (hF : Field w F) (hi : i < 256) :
    Calls Tryz.prog 225 #[.pointer (some ⟨F, 0, none⟩), .int .i64 (i : Nat)] (w.drewN n) fun e w'' => e = .returned (.int .i64 (ex i : Nat)) ∧ ∃ m, w'' = w.drewN m := by
  have := exp_quiet F (i : Int) w n hF (by omega) (by omega)
  rw [Int.toNat_natCast] at this
  exact this
theorem eval_quietN (F p a : Nat) (cs : List Nat) (w : World) (n : Nat) (hF : Field w F) (hp : Poly w F p cs) (ok : Ok cs) (hl : 1 ≤ cs.length) (hl2 : cs.length ≤ 10000) (ha : 1 ≤ a) (ha2 : a < 256) :
    Calls Tryz.prog 272 #[.pointer (some ⟨p, 0, none⟩), .int .i64 (a : Nat)] (w.drewN n) fun e w'' => e = .returned (.int .i64 (ev a cs : Nat)) ∧ ∃ m, w'' = w.drewN m :=
  Calls.quiet_of (eval_any F p a cs _ (hF.heap rfl) (hp.heap rfl) ok hl hl2 ha ha2)
set_option maxHeartbeats 2000000 in
set_option maxRecDepth 100000 in
theorem decode_any (D F g n cap ec : Nat) (l : List Nat) (w : World) (hF : Field w F) (hD : Blk w D 223 #[.pointer (some ⟨F, 0, none⟩)]) (hb : Blk w g 3 (ints .i64 l)) (hn : n = l.length) (ok : Ok l) (h1 : 1 ≤ n) (h2 : n ≤ cap) (h3 : n ≤ 5000) (h4 : cap ≤ 100000) (h5 : ec ≤ 100) (hz : ∀ i, i < ec → ev (ex i) l = 0) :
    Calls Tryz.prog 240 #[.pointer (some ⟨D, 0, none⟩), .slice (some ⟨g, 0, none⟩) n cap, .int .i64 ec] w fun e w' => e = .returned .nilIface ∧ Below w.heap.size w w' := by
  have d0 := hD.cell 0
  have hDl := hD.lt
  simp only [List.getElem?_toArray, List.getElem?_cons_zero] at d0
  have hmk := make_flat Tryz.underlying138 int_info (by decide) ec (ec : Int) rfl (by omega)
  have HZ := Lib.hid hz
  clear hz
  subst hn
  go_enter Tryz.func240, Tryz.ntmps240
  go_wp2_with fail
  refine (poly_new F g 0 cap l.length l w (Rd.of_blk hb) rfl (by omega) h2 h4).mono ?_
  rintro e w1 ⟨p, rfl, hp, hb1⟩
  have hs1 := hb1.size
  have hF1 := hF.below hb1
  have hv := norm_V ok
  have hvp := hv.pos
  have hvl : (norm l).length ≤ 5000 := by have := norm_length_le (p := l) (by rintro rfl; simp at h1); omega
  have hev : ∀ i, i < ec → ev (ex i) (norm l) = 0 := fun i hi => by rw [ev_norm]; exact HZ.out i hi
  have HEV := Lib.hid hev
  have hvo := hv.ok
  clear hev hv
  go_wp2_with fail
  obtain ⟨wo, rfl⟩ : ∃ wo : World, wo = w1 := ⟨_, rfl⟩
  go_loopw [10, 11, 12] (fun t10 t _ wr => ∃ i : Nat, i ≤ ec ∧ t10 = .bool true ∧ t = .int .i64 (i : Nat) ∧ Blk wr wo.heap.size 3 (ints .i64 (List.replicate ec 0)) ∧ Below wo.heap.size wo wr) (fun _ t _ _ => ec - (intOf t).toNat)
  case atStart => exact ⟨0, by omega, rfl, rfl, Blk.new _ _ _, (Below.refl _ _).alloc (Nat.le_refl _) _⟩
  case round =>
    obtain ⟨i, hi, rfl, rfl, hB, hw⟩ := hrel
    have hsz := hw.size
    have d0' : wr.cell? ⟨D, 0, none⟩ = some (.pointer (some ⟨F, 0, none⟩)) := (hw.cell (p := ⟨D, 0, none⟩) (Nat.lt_of_lt_of_le hDl hs1)).trans ((hb1.cell (p := ⟨D, 0, none⟩) hDl).trans d0)
    by_cases hlt : i < ec
    · have hFr := hF1.below hw
      have hpr := hp.below hw
      have hex := ex_lt i
      have hex1 : 1 ≤ ex i := Nat.pos_of_ne_zero (ex_ne i)
      have hzr := HEV.out i hlt
      have HZR := Lib.hid hzr
      clear hzr
      have hcl := hB.cell (ec - 1 - i)
      rw [ints_get (by simp; omega), nth_replicate, if_pos (by omega)] at hcl
      have hfz := hB.frozen (ec - 1 - i)
      have hix : (ec : Int) - 1 - (i : Int) = ((ec - 1 - i : Nat) : Int) := by omega
      have hW0 : IntKind.i64.wrap (i : Int) = (i : Int) := wrap_nat_i64 i (by omega)
      have hW1 : IntKind.i64.wrap ((i : Int) + 0) = (i : Int) := by rw [Int.add_zero]; exact wrap_nat_i64 i (by omega)
      go_wp2_with fail
      go_quiet (first | (go_at_call 226; exact base_quiet F _ _ hFr) | (go_at_call 225; (try rw [hW0]); exact exp_quietN F i _ _ hFr (by omega)) | (go_at_call 272; exact eval_quietN F p (ex i) _ _ _ hFr hpr hvo hvp (by omega) hex1 hex))
      rw [HZR.out]
      clear hW0 hW1
      go_wp2_with fail
      go_roundw
      case rel =>
        refine ⟨i + 1, by omega, rfl, by go_num, ?_, (below_drewN hw _).setCell (Nat.le_refl _) _⟩
        have := (hB.drewN nq).set_ (ec - 1 - i) (.int .i64 ((0 : Nat) : Int))
        rw [ints_set, List.set_replicate_self] at this
        exact this
      case measure => simp [intOf]; omega
    · have hie : i = ec := by omega
      subst hie
      go_wp2_with fail
      go_ret
      exact ⟨rfl, below_trans' hb1 hw hs1⟩
end Go.Proofs.YtcekbhhpcmhicaaGreatDoor
namespace Go.Proofs.YtcekbhhpcmhicaaGreatDoor
open Go.RowKit Go.QW

/-- the bits bs, in m words -/
structure BitsW (w : World) (A g m : Nat) (bs : List Bool) : Prop where
  mk' ::
  ex : ∃ ws : List Nat, Blk w A 187 #[.slice (some ⟨g, 0, none⟩) ws.length ws.length, .int .i64 bs.length] ∧ Blk w g 252 (ints .u32 ws) ∧ bs.length ≤ 32 * ws.length ∧ ws.length ≤ 100000 ∧
    (∀ x, x ∈ ws → x < 4294967296) ∧ (∀ i, (nth ws (i / 32)).testBit (i % 32) = bs.getD i false) ∧ ws.length = m
theorem BitsW.bits {w : World} {A g m : Nat} {bs : List Bool} (h : BitsW w A g m bs) : Bits w A g 0 bs := by
  obtain ⟨ws, h1, h2, h3, h4, h5, h6, -⟩ := h.ex
  exact ⟨ws, h1, h2, h3, by omega, h4, h5, h6⟩
theorem BitsW.kp {w w' : World} {S : List Nat} {A g m : Nat} {bs : List Bool} (h : BitsW w A g m bs) (hk : Kp S w w') (h1 : A ∉ S) (h2 : g ∉ S) : BitsW w' A g m bs := by
  obtain ⟨ws, b1, b2, r⟩ := h.ex
  exact ⟨ws, b1.kp hk h1, b2.kp hk h2, r⟩
set_option maxRecDepth 100000 in
theorem ensureW_any (A g m n : Nat) (bs : List Bool) (w : World) (h : BitsW w A g m bs) (hn : n ≤ 32 * m) :
    Calls Tryz.prog 112 #[.pointer (some ⟨A, 0, none⟩), .int .i64 n] w fun e w' => e = .returned (.tuple #[]) ∧ w = w' := by
  obtain ⟨ws, hA, hg, hl, hm, hw, ht, rfl⟩ := h.ex
  have a0 := hA.cell 0
  simp only [List.getElem?_toArray, List.getElem?_cons_zero] at a0
  clear hw ht
  have hd : decide ((ws.length : Int) * 32 < (n : Int)) = false := by simp; omega
  go_enter Tryz.func112, Tryz.ntmps112
  go_wp2_with fail
  go_end0
  exact ⟨rfl, rfl⟩
set_option maxHeartbeats 2000000 in
set_option maxRecDepth 100000 in
theorem newbitsW_any (w : World) :
    Calls Tryz.prog 44 #[] w fun e w' => ∃ A g, e = .returned (.pointer (some ⟨A, 0, none⟩)) ∧ BitsW w' A g 1 [] ∧ w.heap.size ≤ A ∧ w.heap.size ≤ g ∧ Below w.heap.size w w' := by
  go_enter Tryz.func44, Tryz.ntmps44
  go_wp2_with fail
  refine (marr_any 1 1 (by omega) (by omega) w).mono ?_
  rintro e w1 ⟨rfl, rfl⟩
  go_wp2
  go_ret
  refine ⟨w.heap.size + 1, w.heap.size, rfl, ⟨[0], ?_, (Blk.new w _ _).alloc _, by simp, by simp, by simp, ?_, rfl⟩, by omega, Nat.le_refl _, ((Below.refl _ _).alloc (Nat.le_refl _) _).alloc (by simp) _⟩
  · have := Blk.new (w.alloc (Obj.cells (ints IntKind.u32 (List.replicate 1 0)) 252)) 187 #[.slice (some ⟨w.heap.size, 0, none⟩) 1 1, .int .i64 0]
    rw [World.size_alloc] at this
    exact this
  · intro i
    have : nth [0] (i / 32) = 0 := by
      by_cases h : i / 32 = 0
      · rw [h]; rfl
      · rw [nth_ge (by simp; omega)]
    rw [this]; simp
set_option maxHeartbeats 2000000 in
set_option maxRecDepth 100000 in
theorem appendBitsW_any (A g m k v : Nat) (bs : List Bool) (w : World) (h : BitsW w A g m bs) (hfit : bs.length + k ≤ 32 * m) (hk : k ≤ 32) (hv : v < 4294967296) (hn : bs.length ≤ 800000) :
    Calls Tryz.prog 101 #[.pointer (some ⟨A, 0, none⟩), .int .i64 v, .int .i64 k] w fun e w' => e = .returned .nilIface ∧ BitsW w' A g m (bs ++ bitsOf k v) ∧ Kp [A, g] w w' := by
  obtain ⟨hAl, hgl, hne⟩ := h.bits.lts
  obtain ⟨ws0, hB, -⟩ := h.ex
  have a1 := hB.cell 1
  simp only [List.getElem?_toArray, List.getElem?_cons_zero, List.getElem?_cons_succ] at a1
  have hlt0 : decide ((k : Int) < 0) = false := by simp
  have hgt32 : decide ((32 : Int) < (k : Int)) = false := by simp; omega
  go_enter Tryz.func101, Tryz.ntmps101
  go_wp2_with fail
  have hcast : (bs.length : Int) + (k : Int) = ((bs.length + k : Nat) : Int) := by omega
  rw [hcast]
  refine (ensureW_any A g m (bs.length + k) bs w h hfit).mono ?_
  rintro e w1 ⟨rfl, rfl⟩
  have hc : bs.length + k ≤ 32 * m := hfit
  obtain ⟨g', hg'⟩ : ∃ g', g' = g := ⟨_, rfl⟩
  subst hg'
  have hk1 : Kp [A] w w := Kp.refl _ _
  have hs1 := hk1.size
  obtain ⟨ws, hA, hg, hl, hm, hw, ht, hm'⟩ := h.ex
  have hB1 := h
  rw [hm'] at hA hl hm
  have hm' := hm'.symm
  clear hfit
  obtain ⟨n, hnn⟩ : ∃ n, n = bs.length := ⟨_, rfl⟩
  rw [← hnn] at hcast hl hc hA hn a1 ⊢
  have HN := Lib.hid hnn
  have hW0 : WordsOf w g' m bs := ⟨ws, hm'.symm, hg, hw, ht⟩
  have hAg : A ≠ g' := hA.ne_ hg (by decide)
  clear hcast hw ht hg hm' hB1 a1 hnn hB h
  go_wp2_with fail
  go_loopw [7, 8] (fun t7 t8 wr => ∃ j s : Nat, j ≤ k ∧ s = n + j ∧ t7 = .int .i64 (s : Nat) ∧ t8 = .int .i64 ((k : Int) - 1 - (j : Int)) ∧ WordsOf wr g' m (bs ++ (bitsOf k v).take j) ∧ Kp [g'] w wr) (fun t7 _ _ => n + k - (intOf t7).toNat)
  case atStart => exact ⟨0, n, by omega, rfl, rfl, by simp, by rw [List.take_zero, List.append_nil]; exact hW0, Kp.refl _ _⟩
  case round =>
    obtain ⟨j, s, hj, hs, rfl, rfl, hW, hkr⟩ := hrel
    have hsz := hkr.size
    have hAr := hA.kp hkr (by simpa using hAg)
    have a0 := hAr.cell 0
    have a1 := hAr.cell 1
    have f1 := hAr.frozen 1
    simp only [List.getElem?_toArray, List.getElem?_cons_zero, List.getElem?_cons_succ] at a0 a1
    have hsb : s ≤ 900000 := by omega
    by_cases hlt : j < k
    · obtain ⟨r, hr⟩ : ∃ r : Nat, k = r + 1 + j := ⟨k - 1 - j, by omega⟩
      have hge : decide ((0 : Int) ≤ (k : Int) - 1 - (j : Int)) = true := by simp; omega
      have hrI : (k : Int) - 1 - (j : Int) = (r : Int) := by omega
      rw [hrI] at hge ⊢
      have hr32 : r < 32 := by omega
      have hbit : (bits .and .i64 (v : Int) (wrap64 (2 ^ r)) != 0) = v.testBit r := by
        have e1 : wrap64 ((2 : Int) ^ r) = ((2 ^ r : Nat) : Int) := by
          have := two_pow_lt32 r hr32
          rw [show ((2 : Int)) ^ r = ((2 ^ r : Nat) : Int) by rw [Int.natCast_pow]; rfl]
          generalize (2 : Nat) ^ r = p at this ⊢
          unfold wrap64
          omega
        have := two_pow_lt32 r hr32
        rw [e1, i64_and _ _ (by omega) (by omega), bne, test_and, Bool.not_not]
      have htk := bitsOf_take k v j hlt
      rw [show k - 1 - j = r by omega] at htk
      obtain ⟨ws, hwl, hg, hw, ht⟩ := hW
      have HS := Lib.hid (show s = n + j ∧ s < 32 * m from ⟨hs, by omega⟩)
      cases htb : v.testBit r with
      | false =>
        rw [htb] at hbit htk
        have HTK := Lib.hid htk
        clear htk hs hrI
        go_wp2_with fail
        go_roundw
        case rel =>
          refine ⟨j + 1, s + 1, by omega, by have := HS.out.1; omega, by go_num, by congr 1; omega, ⟨ws, hwl, hg, hw, ?_⟩, hkr⟩
          intro i
          rw [ht, HTK.out, ← List.append_assoc, getD_snoc]
          by_cases e : i = (bs ++ (bitsOf k v).take j).length
          · rw [if_pos e, getD_past _ _ (by omega)]
          · rw [if_neg e]
        case measure => have := HS.out.1; simp [intOf]; omega
      | true =>
        rw [htb] at hbit htk
        have HTK := Lib.hid htk
        have hq : s / 32 < ws.length := by omega
        have hcw := hg.cell (s / 32)
        rw [ints_get hq] at hcw
        have hfw := hg.frozen (s / 32)
        have hand : bits .and .i64 (s : Int) 31 = ((s % 32 : Nat) : Int) := by
          have := i64_and s 31 (by omega) (by omega)
          rw [show s &&& 31 = s % 32 from Nat.and_two_pow_sub_one_eq_mod (n := 5) s] at this
          exact this
        obtain ⟨sr, hsr⟩ : ∃ sr, sr = s % 32 := ⟨_, rfl⟩
        rw [← hsr] at hand
        have hsr32 : sr < 32 := by omega
        have HSR := Lib.hid hsr
        clear htk hs hrI hsr
        go_wp2_with fail
        refine wp_region_quiet_tail 13 (by rfl) (by kernel_rfl) ?_
        simp only [List.take_succ_cons, List.take_zero, List.drop_succ_cons, List.drop_zero]
        repeat (go_big_quiet_step (fail))
        refine wpQuiet_nil ?_
        intro _ hw''
        obtain ⟨nr, rfl⟩ := hw''
        go_wp2_with fail
        go_roundw
        case rel =>
          have hxl : nth ws (s / 32) < 4294967296 := by rw [nth_get hq]; exact hw _ (List.getElem_mem _)
          have h2l := two_pow_lt32 sr hsr32
          rw [two_pow_u32 _ hsr32, u32_or _ _ hxl h2l]
          refine ⟨j + 1, s + 1, by omega, by have := HS.out.1; omega, by go_num, by congr 1; omega, ⟨ws.set (s / 32) (nth ws (s / 32) ||| 2 ^ sr), by rw [List.length_set]; exact hwl, ?_, ?_, ?_⟩, (hkr.drewN nr).setCell (by simp) _⟩
          · have := (hg.drewN nr).set_ (s / 32) (.int .u32 ((nth ws (s / 32) ||| 2 ^ sr : Nat) : Int))
            rw [ints_set] at this
            exact this
          · intro x hx
            rcases List.mem_or_eq_of_mem_set hx with hx | rfl
            · exact hw x hx
            · exact Nat.or_lt_two_pow (n := 32) hxl h2l
          · intro i
            rw [HSR.out, words_set ht s hq, HTK.out, ← List.append_assoc, getD_snoc]
            have hlen : (bs ++ (bitsOf k v).take j).length = s := by rw [List.length_append, List.length_take, bitsOf_length, ← HN.out, HS.out.1]; omega
            rw [hlen]
            by_cases e : i = s
            · rw [if_pos e, decide_eq_true e, Bool.true_or]
            · rw [if_neg e, decide_eq_false e, Bool.false_or]
        case measure => have := HS.out.1; simp [intOf]; omega
    · have hje : j = k := by omega
      subst hje
      have hlt' : decide ((0 : Int) ≤ (j : Int) - 1 - (j : Int)) = false := by simp; omega
      have hj1 : (j : Int) - 1 - (j : Int) = -1 := by omega
      rw [hj1]
      obtain ⟨ws, hwl, hg, hw, ht⟩ := hW
      have HS := Lib.hid hs
      clear hlt' hj1 hs
      go_wp2
      go_ret
      have hs := HS.out
      have hnn := HN.out
      rw [List.take_of_length_le (by rw [bitsOf_length]; exact Nat.le_refl _)] at ht
      have hgA := hg.far (p := ⟨A, 1, none⟩) (Ne.symm hAg) (.int .i64 (s : Nat))
      refine ⟨rfl, ⟨ws, ?_, hgA, by rw [List.length_append, bitsOf_length]; omega, by omega, hw, ht, hwl⟩, ?_⟩
      · rw [List.length_append, bitsOf_length, ← hnn, ← hs, hwl]
        exact hAr.set_ 1 (.int .i64 (s : Nat))
      · refine ((hk1.mono (T := [A, g']) (by intro k hk _; simp at hk ⊢; exact .inl hk)).trans hkr ?_).setCell (by simp) _
        intro i hi hlt
        simp only [List.mem_cons, List.not_mem_nil, or_false] at hi ⊢
        subst hi
        exact .inr rfl

/-- one bit list xor another -/
def xorB (a b : List Bool) : List Bool := (List.range a.length).map fun i => a.getD i false ^^ b.getD i false
theorem xorB_length (a b : List Bool) : (xorB a b).length = a.length := by simp [xorB]
theorem xorB_getD (a b : List Bool) (h : b.length = a.length) (i : Nat) : (xorB a b).getD i false = (a.getD i false ^^ b.getD i false) := by
  by_cases hi : i < a.length
  · rw [List.getD_eq_getElem?_getD, xorB, List.getElem?_map, List.getElem?_range hi]; rfl
  · rw [getD_past _ _ (by rw [xorB_length]; omega), getD_past a _ (by omega), getD_past b _ (by omega)]; rfl
set_option maxHeartbeats 2000000 in
set_option maxRecDepth 100000 in
theorem xor_bits_any (A g A2 g2 : Nat) (bs bs2 : List Bool) (w : World) (h : BitsW w A g 1 bs) (h2 : BitsW w A2 g2 1 bs2) (_hA : A2 ≠ A) (_hg : g2 ≠ g) (hl : bs2.length = bs.length) :
    Calls Tryz.prog 206 #[.pointer (some ⟨A, 0, none⟩), .pointer (some ⟨A2, 0, none⟩)] w fun e w' => e = .returned .nilIface ∧ BitsW w' A g 1 (xorB bs bs2) ∧ Kp [g] w w' := by
  obtain ⟨ws, b1, b2, b3, b4, b5, b6, b7⟩ := h.ex
  obtain ⟨ws2, c1, c2, c3, c4, c5, c6, c7⟩ := h2.ex
  obtain ⟨x, rfl⟩ : ∃ x, ws = [x] := by
    match ws, b7 with
    | [x], _ => exact ⟨x, rfl⟩
  obtain ⟨y, rfl⟩ : ∃ y, ws2 = [y] := by
    match ws2, c7 with
    | [y], _ => exact ⟨y, rfl⟩
  have hx := b5 x (by simp)
  have hy := c5 y (by simp)
  have hAg : A ≠ g := b1.ne_ b2 (by decide)
  have hA2g : A2 ≠ g := c1.ne_ b2 (by decide)
  have a0 := b1.cell 0
  have a1 := b1.cell 1
  have e0 := c1.cell 0
  have e1 := c1.cell 1
  have gx := b2.cell 0
  have fx := b2.frozen 0
  have gy := c2.cell 0
  rw [hl] at e1
  simp only [List.length_singleton, List.getElem?_toArray, List.getElem?_cons_zero, List.getElem?_cons_succ] at a0 a1 e0 e1
  rw [ints_get (by simp)] at gx gy
  have hn1 : nth [x] 0 = x := rfl
  have hn2 : nth [y] 0 = y := rfl
  rw [hn1] at gx
  rw [hn2] at gy
  have H6 := Lib.hid b6
  have H6' := Lib.hid c6
  have HB := Lib.hid (And.intro b1 b2)
  have HL := Lib.hid hl
  have H3 := Lib.hid b3
  clear b1 b2 b5 b6 b7 c1 c2 c5 c6 c7 hl hn1 hn2 b3 c3 b4 c4 h h2
  go_enter Tryz.func206, Tryz.ntmps206
  go_wp2_with fail
  go_quiet (fail)
  go_wp2_with fail
  obtain ⟨wo, hwo⟩ : ∃ wo : World, wo = w.drewN nq := ⟨_, rfl⟩
  go_loopw [5] (fun t5 wr => (t5 = .int .i64 0 ∧ wr = w.drewN nq) ∨ (t5 = .int .i64 1 ∧ ∃ n, wr = (w.drewN n).setCell ⟨g, 0, none⟩ (.int .u32 ((x ^^^ y : Nat) : Int)))) (fun t5 _ => 1 - (intOf t5).toNat)
  case atStart => exact .inl ⟨rfl, rfl⟩
  case round =>
    rcases hrel with ⟨rfl, rfl⟩ | ⟨rfl, n, rfl⟩
    · go_wp2_with fail
      refine wp_region_quiet_tail 16 (by rfl) (by kernel_rfl) ?_
      simp only [List.take_succ_cons, List.take_zero, List.drop_succ_cons, List.drop_zero]
      repeat (go_big_quiet_step (fail))
      refine wpQuiet_nil ?_
      intro _ hw''
      obtain ⟨nr, rfl⟩ := hw''
      go_wp2_with fail
      go_roundw
      case rel =>
        refine .inr ⟨rfl, nq + nr, ?_⟩
        rw [u32_xor _ _ hx hy]
      case measure => simp [intOf]
    · have a0' : ((w.drewN n).setCell ⟨g, 0, none⟩ (.int .u32 ((x ^^^ y : Nat) : Int))).cell? ⟨A, 0, none⟩ = some (.slice (some ⟨g, 0, none⟩) 1 1) := by
        rw [cell_set_far _ _ _ _ _ _ hAg]; exact a0
      go_wp2_with fail
      go_ret
      obtain ⟨b1, b2⟩ := HB.out
      have hgA : A ≠ g := hAg
      have k2 := ((b2.drewN n).set_ 0 (.int .u32 ((x ^^^ y : Nat) : Int)))
      rw [ints_set] at k2
      refine ⟨rfl, ⟨[x ^^^ y], ?_, k2, by rw [xorB_length]; exact H3.out, by simp, ?_, ?_, rfl⟩, ((Kp.refl _ w).drewN n).setCell (by simp) _⟩
      · rw [xorB_length]
        exact (b1.drewN n).far (by simpa using hAg) _
      · intro z hz
        simp only [List.mem_singleton] at hz
        subst hz
        exact Nat.xor_lt_two_pow (n := 32) hx hy
      · intro i
        have q1 := H6.out i
        have q2 := H6'.out i
        rw [xorB_getD _ _ HL.out, ← q1, ← q2]
        by_cases e : i / 32 = 0
        · rw [e]
          show (x ^^^ y).testBit _ = _
          rw [Nat.testBit_xor]; rfl
        · rw [nth_ge (by simp; omega), nth_ge (l := [x]) (by simp; omega), nth_ge (l := [y]) (by simp; omega)]; simp
end Go.Proofs.YtcekbhhpcmhicaaGreatDoor
namespace Go.Proofs.YtcekbhhpcmhicaaGreatDoor
open Go.RowKit Go.QW
def msb (x : Nat) : Nat := if x = 0 then 0 else Nat.log2 x + 1
theorem msb_half (x : Nat) (h : 1 ≤ x) : msb x = msb (x / 2) + 1 := by
  unfold msb
  rw [if_neg (by omega)]
  by_cases h1 : x = 1
  · subst h1; rfl
  · rw [if_neg (by omega), Nat.log2_def, if_pos (by omega)]
theorem msb_8 (x : Nat) (h : 256 ≤ x) : msb x = msb (x / 256) + 8 := by
  rw [msb_half x (by omega), msb_half (x / 2) (by omega), msb_half (x / 2 / 2) (by omega), msb_half (x / 2 / 2 / 2) (by omega), msb_half (x / 2 / 2 / 2 / 2) (by omega), msb_half (x / 2 / 2 / 2 / 2 / 2) (by omega), msb_half (x / 2 / 2 / 2 / 2 / 2 / 2) (by omega),
    msb_half (x / 2 / 2 / 2 / 2 / 2 / 2 / 2) (by omega)]
  simp only [Nat.div_div_eq_div_mul]
def len8 : ByteArray := ⟨#[0, 1, 2, 2, 3, 3, 3, 3, 4, 4, 4, 4, 4, 4, 4, 4, 5, 5, 5, 5, 5, 5, 5, 5, 5, 5, 5, 5, 5, 5, 5, 5, 6, 6, 6, 6, 6, 6, 6, 6, 6, 6, 6, 6, 6, 6, 6, 6, 6, 6, 6, 6, 6, 6, 6, 6, 6, 6, 6, 6, 6, 6, 6, 6, 7, 7, 7, 7, 7, 7, 7, 7, 7, 7, 7, 7, 7, 7, 7, 7, 7, 7, 7, 7, 7, 7, 7, 7, 7, 7, 7, 7, 7, 7, 7, 7, 7, 7, 7, 7, 7, 7, 7, 7, 7, 7, 7, 7, 7, 7, 7, 7, 7, 7, 7, 7, 7, 7, 7, 7, 7, 7, 7, 7, 7, 7, 7, 7, 8, 8, 8, 8, 8, 8, 8, 8, 8, 8, 8, 8, 8, 8, 8, 8, 8, 8, 8, 8, 8, 8, 8, 8, 8, 8, 8, 8, 8, 8, 8, 8, 8, 8, 8, 8, 8, 8, 8, 8, 8, 8, 8, 8, 8, 8, 8, 8, 8, 8, 8, 8, 8, 8, 8, 8, 8, 8, 8, 8, 8, 8, 8, 8, 8, 8, 8, 8, 8, 8, 8, 8, 8, 8, 8, 8, 8, 8, 8, 8, 8, 8, 8, 8, 8, 8, 8, 8, 8, 8, 8, 8, 8, 8, 8, 8, 8, 8, 8, 8, 8, 8, 8, 8, 8, 8, 8, 8, 8, 8, 8, 8, 8, 8, 8, 8, 8, 8, 8, 8, 8, 8, 8, 8, 8, 8, 8, 8]⟩
theorem len8_all : ∀ i : Fin 256, (len8.data.getD i.val 0).toNat = msb i.val := by decide +kernel
theorem len8_size : len8.size = 256 := by kernel_rfl
theorem len8_get (x : Nat) (h : x < len8.size) : (len8[x]'h).toNat = msb x := by
  have h' : x < 256 := by rw [← len8_size]; exact h
  rw [← len8_all ⟨x, h'⟩]
  have : len8.data.getD x 0 = len8[x]'h := by
    have h2 : x < len8.data.size := h
    rw [Array.getD_eq_getD_getElem?, Array.getElem?_eq_getElem h2]; rfl
  rw [this]
theorem msb_le (x : Nat) (h : x < 256) : msb x ≤ 8 := by
  have : ∀ i : Fin 256, msb i.val ≤ 8 := by decide +kernel
  exact this ⟨x, h⟩
theorem w64_small (n : Nat) (h : n ≤ 1000) : wrap64 (n : Int) = (n : Int) := by unfold wrap64; omega
set_option maxHeartbeats 2000000 in
set_option maxRecDepth 100000 in
theorem len32_any (x : Nat) (hx : x < 1048576) (w : World) :
    Calls Tryz.prog 286 #[.int .u32 x] w fun e w' => e = .returned (.int .i64 (msb x : Nat)) ∧ w = w' := by
  by_cases h1 : x < 256
  · have d1 : decide (65536 ≤ (x : Int)) = false := by simp; omega
    have d2 : decide (256 ≤ (x : Int)) = false := by simp; omega
    go_enter Tryz.func286, Tryz.ntmps286
    go_wp2_with fail
    go_ret
    have hl : x < len8.size := by rw [len8_size]; exact h1
    have hm := msb_le x h1
    refine ⟨?_, rfl⟩
    show Ending.returned (Value.int .i64 (wrap64 (wrap64 ((len8[x]'hl).toNat : Int)))) = _
    rw [len8_get, w64_small _ (by omega), w64_small _ (by omega)]
  · by_cases h2 : x < 65536
    · have d1 : decide (65536 ≤ (x : Int)) = false := by simp; omega
      have d2 : decide (256 ≤ (x : Int)) = true := by simp; omega
      go_enter Tryz.func286, Tryz.ntmps286
      go_wp2_with fail
      go_ret
      have hl : x / 256 < len8.size := by rw [len8_size]; omega
      have hm := msb_le (x / 256) (by omega)
      refine ⟨?_, rfl⟩
      show Ending.returned (Value.int .i64 (wrap64 (8 + wrap64 ((len8[x / 256]'hl).toNat : Int)))) = _
      rw [len8_get, w64_small _ (by omega), msb_8 x (by omega)]
      exact ret_int (by unfold wrap64; omega)
    · have d1 : decide (65536 ≤ (x : Int)) = true := by simp; omega
      have d2 : decide (256 ≤ (x : Int) / 65536) = false := by simp; omega
      go_enter Tryz.func286, Tryz.ntmps286
      go_wp2_with fail
      go_ret
      have hl : x / 65536 < len8.size := by rw [len8_size]; omega
      have hm := msb_le (x / 65536) (by omega)
      refine ⟨?_, rfl⟩
      show Ending.returned (Value.int .i64 (wrap64 (16 + wrap64 ((len8[x / 65536]'hl).toNat : Int)))) = _
      rw [len8_get, w64_small _ (by omega), msb_8 x (by omega), msb_8 (x / 256) (by omega), show x / 256 / 256 = x / 65536 by omega]
      exact ret_int (by unfold wrap64; omega)
theorem lz32_any (x : Nat) (hx : x < 1048576) (w : World) :
    Calls Tryz.prog 268 #[.int .u32 x] w fun e w' => e = .returned (.int .i64 (wrap64 (32 - (msb x : Nat)))) ∧ w = w' := by
  go_enter Tryz.func268, Tryz.ntmps268
  go_wp2_with fail
  refine (len32_any x hx w).mono ?_
  rintro e w1 ⟨rfl, rfl⟩
  go_wp2_with fail
  go_ret
  exact ⟨rfl, rfl⟩
theorem msb_20 (x : Nat) (h : x < 1048576) : msb x ≤ 24 := by
  by_cases h1 : x < 256
  · have := msb_le x h1; omega
  · rw [msb_8 x (by omega)]
    by_cases h2 : x / 256 < 256
    · have := msb_le (x / 256) h2; omega
    · rw [msb_8 (x / 256) (by omega)]
      have := msb_le (x / 256 / 256) (by omega); omega
theorem fmsb_any (x : Nat) (hx : x < 1048576) (w : World) :
    Calls Tryz.prog 237 #[.int .i64 x] w fun e w' => e = .returned (.int .i64 (msb x : Nat)) ∧ w = w' := by
  have hm := msb_20 x hx
  have h1 : wrap64 (32 - (msb x : Nat)) = 32 - (msb x : Nat) := by unfold wrap64; omega
  go_enter Tryz.func237, Tryz.ntmps237
  go_wp2_with fail
  refine (lz32_any x hx w).mono ?_
  rintro e w1 ⟨rfl, rfl⟩
  rw [h1]
  clear h1
  go_wp2_with fail
  go_ret
  exact ⟨ret_int (by omega), rfl⟩
/-- the rest of v over the polynomial p, whose highest bit is the m-th; in n steps, within bounds -/
def bchRun (p m : Nat) : Nat → Nat → Option Nat
  | 0, v => if msb v < m then some v else none
  | n + 1, v => if msb v < m then some v else if p * 2 ^ (msb v - m) < 524288 ∧ v ^^^ (p * 2 ^ (msb v - m)) < 524288 then bchRun p m n (v ^^^ (p * 2 ^ (msb v - m))) else none
theorem w64_mul (x k : Nat) (h : x * 2 ^ k < 524288) : wrap64 ((x : Int) * 2 ^ k) = ((x * 2 ^ k : Nat) : Int) := by
  have e : (x : Int) * 2 ^ k = ((x * 2 ^ k : Nat) : Int) := by rw [Int.natCast_mul, Int.natCast_pow]; rfl
  rw [e]
  generalize x * 2 ^ k = y at h ⊢
  unfold wrap64; omega
set_option maxHeartbeats 2000000 in
set_option maxRecDepth 100000 in
theorem bch_any (x p m r : Nat) (w : World) (hm : msb p = m) (h1 : 1 ≤ p) (hp : p < 524288) (hx : x * 2 ^ (m - 1) < 524288) (hr : bchRun p m 20 (x * 2 ^ (m - 1)) = some r) :
    Calls Tryz.prog 205 #[.int .i64 x, .int .i64 p] w fun e w' => e = .returned (.tuple #[.int .i64 r, .nilIface]) ∧ w = w' := by
  have HR := Lib.hid hr
  have hml := msb_20 p (by omega)
  have hm1 : 1 ≤ msb p := by unfold msb; rw [if_neg (by omega)]; omega
  rw [hm] at hml hm1
  have HM := Lib.hid hm
  have HX := Lib.hid hx
  have hpz : ((p : Int) == 0) = false := by rw [beq_eq_false_iff_ne]; omega
  clear hr hm hx
  go_enter Tryz.func205, Tryz.ntmps205
  go_wp2_with fail
  refine (fmsb_any p (by omega) w).mono ?_
  rintro e w1 ⟨rfl, rfl⟩
  rw [HM.out]
  go_wp2_with fail
  go_loopg [0] 20 (fun n t0 wr => ∃ v : Nat, t0 = .int .i64 v ∧ v < 524288 ∧ bchRun p m n v = some r ∧ wr = w)
  case atStart => exact ⟨x * 2 ^ (m - 1), by rw [w64_mul x (m - 1) HX.out], HX.out, HR.out, rfl⟩
  case round =>
    obtain ⟨v, rfl, hv, hrun, rfl⟩ := hrel
    have hs := msb_20 v (by omega)
    obtain ⟨s, hse⟩ : ∃ s, s = msb v := ⟨_, rfl⟩
    rw [← hse] at hs
    have HS := Lib.hid hse
    clear hse
    by_cases hlt : s < m
    · have hd : decide ((m : Int) ≤ (s : Int)) = false := by simp; omega
      have hvr : v = r := by
        cases gk with
        | zero => rw [bchRun, if_pos (by rw [← HS.out]; exact hlt)] at hrun; injection hrun
        | succ n => rw [bchRun, if_pos (by rw [← HS.out]; exact hlt)] at hrun; injection hrun
      have HVR := Lib.hid hvr
      clear hrun hvr
      go_wp2_with fail
      refine (fmsb_any v (by omega) _).mono ?_
      rintro e w1 ⟨rfl, rfl⟩
      rw [← HS.out]
      go_wp2_with fail
      go_ret2
      rw [HVR.out]
      exact ⟨rfl, rfl⟩
    · have hd : decide ((m : Int) ≤ (s : Int)) = true := by simp; omega
      obtain ⟨n, hgn, hb1, hb2, hrun'⟩ : ∃ n, gk = n + 1 ∧ p * 2 ^ (s - m) < 524288 ∧ v ^^^ (p * 2 ^ (s - m)) < 524288 ∧ bchRun p m n (v ^^^ (p * 2 ^ (s - m))) = some r := by
        rw [HS.out]
        cases gk with
        | zero => rw [bchRun, if_neg (by rw [← HS.out]; exact hlt)] at hrun; cases hrun
        | succ n =>
          rw [bchRun, if_neg (by rw [← HS.out]; exact hlt)] at hrun
          by_cases hc : p * 2 ^ (msb v - m) < 524288 ∧ v ^^^ (p * 2 ^ (msb v - m)) < 524288
          · rw [if_pos hc] at hrun; exact ⟨n, rfl, hc.1, hc.2, hrun⟩
          · rw [if_neg hc] at hrun; cases hrun
      have HRUN := Lib.hid hrun'
      have HGN := Lib.hid hgn
      clear hrun hrun' hgn
      have HB := Lib.hid (And.intro hb1 hb2)
      clear hb1 hb2
      go_wp2_with fail
      refine (fmsb_any v (by omega) _).mono ?_
      rintro e w1 ⟨rfl, rfl⟩
      rw [← HS.out]
      go_wp2_with fail
      refine (fmsb_any v (by omega) _).mono ?_
      rintro e w1 ⟨rfl, rfl⟩
      rw [← HS.out]
      go_wp2_with fail
      go_roundg n
      case measure => have := HGN.out; omega
      case rel =>
        refine ⟨v ^^^ (p * 2 ^ (s - m)), ?_, HB.out.2, HRUN.out, rfl⟩
        have e1 := w64_mul p (s - m) HB.out.1
        have e2 := i64_xor v (p * 2 ^ (s - m)) (by omega) (by have := HB.out.1; omega)
        rw [← e2]
        rw [e1]
end Go.Proofs.YtcekbhhpcmhicaaGreatDoor
namespace Go.QZ
open Go.QV

/-- the right column of the c-th pair -/
def colX (d c : Nat) : Nat := if 6 < d - 1 - 2 * c then d - 1 - 2 * c else d - 2 - 2 * c
def rowY (d c t : Nat) : Nat := if c % 2 = 0 then d - 1 - t else t
def idxC (d x : Nat) : Nat := if 6 < x then (d - 1 - x) / 2 else (d - 2 - x) / 2
def idxI (d x : Nat) : Nat := if 6 < x then (d - 1 - x) % 2 else (d - 2 - x) % 2
def idxT (d y x : Nat) : Nat := if idxC d x % 2 = 0 then d - 1 - y else y
/-- the number of the cell in row y and column x -/
def idx (d y x : Nat) : Nat := 2 * (idxC d x * d + idxT d y x) + idxI d x
theorem col_facts {d c i : Nat} (hd : 21 ≤ d) (ho : d % 2 = 1) (hc : c < (d - 1) / 2) (hi : i < 2) :
    i ≤ colX d c ∧ colX d c < d ∧ colX d c - i ≠ 6 ∧ idxC d (colX d c - i) = c ∧ idxI d (colX d c - i) = i := by
  unfold colX idxC idxI
  by_cases h : 6 < d - 1 - 2 * c
  · rw [if_pos h]
    have h2 : 6 < d - 1 - 2 * c - i := by omega
    rw [if_pos h2, if_pos h2]
    omega
  · rw [if_neg h]
    have h2 : ¬ 6 < d - 2 - 2 * c - i := by omega
    rw [if_neg h2, if_neg h2]
    omega
theorem row_facts {d c t : Nat} (ht : t < d) : rowY d c t < d := by unfold rowY; split <;> omega
theorem idx_at {d c t i : Nat} (hd : 21 ≤ d) (ho : d % 2 = 1) (hc : c < (d - 1) / 2) (ht : t < d) (hi : i < 2) : idx d (rowY d c t) (colX d c - i) = 2 * (c * d + t) + i := by
  obtain ⟨-, -, -, h4, h5⟩ := col_facts hd ho hc hi
  unfold idx idxT
  rw [h4, h5]
  unfold rowY
  by_cases h : c % 2 = 0
  · rw [if_pos h, if_pos h]; omega
  · rw [if_neg h, if_neg h]
theorem idxT_lt {d y x : Nat} (hy : y < d) : idxT d y x < d := by unfold idxT; split <;> omega
theorem idxC_lt {d x : Nat} (hd : 21 ≤ d) (ho : d % 2 = 1) (hx : x < d) (_h6 : x ≠ 6) : idxC d x < (d - 1) / 2 := by unfold idxC; split <;> omega
theorem idxI_lt (d x : Nat) : idxI d x < 2 := by unfold idxI; split <;> omega
theorem idx_inj {d y x y' x' : Nat} (hd : 21 ≤ d) (ho : d % 2 = 1) (hy : y < d) (hx : x < d) (h6 : x ≠ 6) (hy' : y' < d) (hx' : x' < d) (h6' : x' ≠ 6) (h : idx d y x = idx d y' x') : y = y' ∧ x = x' := by
  unfold idx at h
  have i1 := idxI_lt d x
  have i2 := idxI_lt d x'
  have t1 := idxT_lt (x := x) hy
  have t2 := idxT_lt (x := x') hy'
  have hi : idxI d x = idxI d x' := by omega
  have hq : idxC d x * d + idxT d y x = idxC d x' * d + idxT d y' x' := by omega
  have hc : idxC d x = idxC d x' := by
    have e1 : (idxC d x * d + idxT d y x) / d = idxC d x := by rw [Nat.mul_comm, Nat.mul_add_div (by omega), Nat.div_eq_of_lt t1, Nat.add_zero]
    have e2 : (idxC d x' * d + idxT d y' x') / d = idxC d x' := by rw [Nat.mul_comm, Nat.mul_add_div (by omega), Nat.div_eq_of_lt t2, Nat.add_zero]
    rw [← e1, ← e2, hq]
  rw [hc] at hq
  have ht : idxT d y x = idxT d y' x' := by omega
  have hxx : x = x' := by
    unfold idxC at hc
    unfold idxI at hi
    by_cases h1 : 6 < x
    · rw [if_pos h1] at hc hi
      by_cases h2 : 6 < x'
      · rw [if_pos h2] at hc hi; omega
      · rw [if_neg h2] at hc hi; omega
    · rw [if_neg h1] at hc hi
      by_cases h2 : 6 < x'
      · rw [if_pos h2] at hc hi; omega
      · rw [if_neg h2] at hc hi; omega
  subst hxx
  refine ⟨?_, rfl⟩
  unfold idxT at ht
  by_cases h : idxC d x % 2 = 0
  · rw [if_pos h, if_pos h] at ht; omega
  · rw [if_neg h, if_neg h] at ht; exact ht
theorem idx_lt {d y x : Nat} (hd : 21 ≤ d) (ho : d % 2 = 1) (hy : y < d) (hx : x < d) (h6 : x ≠ 6) : idx d y x < 2 * ((d - 1) / 2 * d) := by
  have h1 := idxC_lt hd ho hx h6
  have h2 := idxT_lt (x := x) hy
  have h3 := idxI_lt d x
  have h4 : (idxC d x + 1) * d ≤ (d - 1) / 2 * d := Nat.mul_le_mul_right _ h1
  rw [Nat.succ_mul] at h4
  unfold idx
  omega

/-- the n-th cell -/
def cyN (d n : Nat) : Nat := rowY d (n / 2 / d) (n / 2 % d)
def cxN (d n : Nat) : Nat := colX d (n / 2 / d) - n % 2
theorem cN_at {d c t i : Nat} (ht : t < d) (hi : i < 2) : cyN d (2 * (c * d + t) + i) = rowY d c t ∧ cxN d (2 * (c * d + t) + i) = colX d c - i := by
  have e1 : (2 * (c * d + t) + i) / 2 = c * d + t := by omega
  have e2 : (c * d + t) / d = c := by rw [Nat.mul_comm, Nat.mul_add_div (by omega), Nat.div_eq_of_lt ht, Nat.add_zero]
  have e3 : (c * d + t) % d = t := by rw [Nat.add_comm, Nat.add_mul_mod_self_right, Nat.mod_eq_of_lt ht]
  have e4 : (2 * (c * d + t) + i) % 2 = i := by omega
  unfold cyN cxN
  rw [e1, e2, e3, e4]
  exact ⟨rfl, rfl⟩

/-- is x near the centre c -/
def near (c x : Nat) : Bool := Nat.ble c (x + 2) && Nat.ble x (c + 2)
/-- a centre in a corner -/
def corner (d cy cx : Nat) : Bool := (Nat.beq cy 6 && Nat.beq cx 6) || (Nat.beq cy 6 && Nat.beq cx (d - 7)) || (Nat.beq cy (d - 7) && Nat.beq cx 6)
/-- a cell of an alignment pattern -/
def alB (d : Nat) (al : List Nat) (y x : Nat) : Bool := al.any fun cy => near cy y && al.any fun cx => near cx x && !corner d cy cx
/-- a cell that is not data -/
def fpB (v : Nat) (al : List Nat) (y x : Nat) : Bool :=
  (Nat.blt y 9 && Nat.blt x 9) || (Nat.blt y 9 && Nat.ble (9 + 4 * v) x) || (Nat.ble (9 + 4 * v) y && Nat.blt x 9) || Nat.beq x 6 || Nat.beq y 6 || alB (17 + 4 * v) al y x ||
  (Nat.blt 6 v && ((Nat.blt y 6 && Nat.ble (6 + 4 * v) x && Nat.blt x (9 + 4 * v)) || (Nat.blt x 6 && Nat.ble (6 + 4 * v) y && Nat.blt y (9 + 4 * v))))
def fp (v y x : Nat) : Bool := fpB v (aligns v) y x
/-- data cells among the first n -/
def cnt (v : Nat) : Nat → Nat
  | 0 => 0
  | n + 1 => cnt v n + if fp v (cyN (17 + 4 * v) n) (cxN (17 + 4 * v) n) then 0 else 1
def cnt2 (v : Nat) (al : List Nat) (d c t : Nat) : Nat := (bif fpB v al (rowY d c t) (colX d c) then 0 else 1) + (bif fpB v al (rowY d c t) (colX d c - 1) then 0 else 1)
def cntT (v : Nat) (al : List Nat) (d c : Nat) : Nat → Nat
  | 0 => 0
  | t + 1 => Nat.add (cntT v al d c t) (cnt2 v al d c t)
def cntC (v : Nat) (al : List Nat) (d : Nat) : Nat → Nat
  | 0 => 0
  | c + 1 => Nat.add (cntC v al d c) (cntT v al d c d)
theorem cnt_T (v c : Nat) : ∀ t, t ≤ 17 + 4 * v → cnt v (2 * (c * (17 + 4 * v) + t)) = cnt v (2 * (c * (17 + 4 * v))) + cntT v (aligns v) (17 + 4 * v) c t
  | 0, _ => rfl
  | t + 1, h => by
    have ih := cnt_T v c t (by omega)
    have e : 2 * (c * (17 + 4 * v) + (t + 1)) = 2 * (c * (17 + 4 * v) + t) + 1 + 1 := by omega
    obtain ⟨a1, a2⟩ := cN_at (d := 17 + 4 * v) (c := c) (t := t) (i := 0) (by omega) (by omega)
    obtain ⟨b1, b2⟩ := cN_at (d := 17 + 4 * v) (c := c) (t := t) (i := 1) (by omega) (by omega)
    rw [Nat.add_zero] at a1 a2
    have hc : cntT v (aligns v) (17 + 4 * v) c (t + 1) = cntT v (aligns v) (17 + 4 * v) c t + cnt2 v (aligns v) (17 + 4 * v) c t := rfl
    rw [e, cnt, cnt, ih, a1, a2, b1, b2, Nat.sub_zero, hc]
    unfold cnt2 fp
    simp only [cond_eq_ite]
    omega
theorem cnt_C (v : Nat) : ∀ c, cnt v (2 * (c * (17 + 4 * v))) = cntC v (aligns v) (17 + 4 * v) c
  | 0 => by rw [Nat.zero_mul]; rfl
  | c + 1 => by
    have ih := cnt_C v c
    have e : (c + 1) * (17 + 4 * v) = c * (17 + 4 * v) + (17 + 4 * v) := Nat.succ_mul _ _
    rw [e, cnt_T v c (17 + 4 * v) (Nat.le_refl _), ih]
    rfl
theorem cnt_mono (v : Nat) {n m : Nat} (h : n ≤ m) : cnt v n ≤ cnt v m := by
  induction m with
  | zero => rw [Nat.le_zero.1 h]; exact Nat.le_refl _
  | succ m ih =>
    by_cases e : n = m + 1
    · rw [e]; exact Nat.le_refl _
    · have := ih (by omega)
      rw [cnt]; omega
end Go.QZ
namespace Go.QM
open Go.QV Go.QZ
abbrev Cells := Nat → Nat → Int
def upd (f : Cells) (y x : Nat) (v : Int) : Cells := fun Y X => if Y = y ∧ X = x then v else f Y X
/-- a square of side n with the pattern p -/
def sq (n : Nat) (p : Cells) (ys xs : Nat) (f : Cells) : Cells := fun Y X => if (ys ≤ Y ∧ Y < ys + n) ∧ xs ≤ X ∧ X < xs + n then p (Y - ys) (X - xs) else f Y X
/-- k rows of it and j cells of the next one -/
def sqk (n : Nat) (p : Cells) (ys xs k j : Nat) (f : Cells) : Cells := fun Y X => if (ys ≤ Y ∧ (Y < ys + k ∨ (Y = ys + k ∧ X < xs + j))) ∧ xs ≤ X ∧ X < xs + n then p (Y - ys) (X - xs) else f Y X
theorem sqk_put (n : Nat) (p : Cells) (ys xs k j : Nat) (f : Cells) (hj : j < n) (Y X : Nat) : upd (sqk n p ys xs k j f) (ys + k) (xs + j) (p k j) Y X = sqk n p ys xs k (j + 1) f Y X := by
  unfold upd sqk
  by_cases h : Y = ys + k ∧ X = xs + j
  · obtain ⟨rfl, rfl⟩ := h
    rw [if_pos ⟨rfl, rfl⟩, if_pos (by omega), Nat.add_sub_cancel_left, Nat.add_sub_cancel_left]
  · rw [if_neg h]
    by_cases c : (ys ≤ Y ∧ (Y < ys + k ∨ (Y = ys + k ∧ X < xs + j))) ∧ xs ≤ X ∧ X < xs + n
    · rw [if_pos c, if_pos (by omega)]
    · rw [if_neg c, if_neg (by omega)]
theorem sqk_row (n : Nat) (p : Cells) (ys xs k : Nat) (f : Cells) (Y X : Nat) : sqk n p ys xs k n f Y X = sqk n p ys xs (k + 1) 0 f Y X := by
  unfold sqk
  by_cases c : (ys ≤ Y ∧ (Y < ys + k ∨ (Y = ys + k ∧ X < xs + n))) ∧ xs ≤ X ∧ X < xs + n
  · rw [if_pos c, if_pos (by omega)]
  · rw [if_neg c, if_neg (by omega)]
theorem sqk_zero (n : Nat) (p : Cells) (ys xs : Nat) (f : Cells) (Y X : Nat) : f Y X = sqk n p ys xs 0 0 f Y X := by
  unfold sqk
  rw [if_neg (by omega)]
theorem sqk_all (n : Nat) (p : Cells) (ys xs : Nat) (f : Cells) (Y X : Nat) : sqk n p ys xs n 0 f Y X = sq n p ys xs f Y X := by
  unfold sqk sq
  by_cases c : (ys ≤ Y ∧ Y < ys + n) ∧ xs ≤ X ∧ X < xs + n
  · rw [if_pos (by omega), if_pos c]
  · rw [if_neg (by omega), if_neg c]
/-- n cells of a row -/
def hl (n y xs : Nat) (v : Int) (f : Cells) : Cells := fun Y X => if Y = y ∧ xs ≤ X ∧ X < xs + n then v else f Y X
theorem hl_put (n y xs : Nat) (v : Int) (f : Cells) (Y X : Nat) : upd (hl n y xs v f) y (xs + n) v Y X = hl (n + 1) y xs v f Y X := by
  unfold upd hl
  by_cases h : Y = y ∧ X = xs + n
  · rw [if_pos h, if_pos (by omega)]
  · rw [if_neg h]
    by_cases c : Y = y ∧ xs ≤ X ∧ X < xs + n
    · rw [if_pos c, if_pos (by omega)]
    · rw [if_neg c, if_neg (by omega)]
theorem hl_zero (y xs : Nat) (v : Int) (f : Cells) (Y X : Nat) : f Y X = hl 0 y xs v f Y X := by
  unfold hl; rw [if_neg (by omega)]
/-- n cells of a column -/
def vl (n ys x : Nat) (v : Int) (f : Cells) : Cells := fun Y X => if X = x ∧ ys ≤ Y ∧ Y < ys + n then v else f Y X
theorem vl_put (n ys x : Nat) (v : Int) (f : Cells) (Y X : Nat) : upd (vl n ys x v f) (ys + n) x v Y X = vl (n + 1) ys x v f Y X := by
  unfold upd vl
  by_cases h : Y = ys + n ∧ X = x
  · rw [if_pos h, if_pos (by omega)]
  · rw [if_neg h]
    by_cases c : X = x ∧ ys ≤ Y ∧ Y < ys + n
    · rw [if_pos c, if_pos (by omega)]
    · rw [if_neg c, if_neg (by omega)]
theorem vl_zero (ys x : Nat) (v : Int) (f : Cells) (Y X : Nat) : f Y X = vl 0 ys x v f Y X := by
  unfold vl; rw [if_neg (by omega)]
/-- the pattern in the corners -/
def pdp : Cells := fun y x => if y = 0 ∨ y = 6 ∨ x = 0 ∨ x = 6 then 1 else if y = 1 ∨ y = 5 ∨ x = 1 ∨ x = 5 then 0 else 1
/-- the alignment pattern -/
def pap : Cells := fun y x => if y = 0 ∨ y = 4 ∨ x = 0 ∨ x = 4 then 1 else if y = 2 ∧ x = 2 then 1 else 0
theorem pdp_bd (y x : Nat) : 0 ≤ pdp y x ∧ pdp y x ≤ 1 := by unfold pdp; constructor <;> (repeat' split) <;> decide
theorem pap_bd (y x : Nat) : 0 ≤ pap y x ∧ pap y x ≤ 1 := by unfold pap; constructor <;> (repeat' split) <;> decide
/-- the corners with their separators -/
def c8 (d : Nat) (f : Cells) : Cells :=
  vl 7 (d - 7) 7 0 (vl 7 0 (d - 8) 0 (vl 7 0 7 0 (hl 8 (d - 8) 0 0 (hl 8 7 (d - 8) 0 (hl 8 7 0 0 (sq 7 pdp (d - 7) 0 (sq 7 pdp 0 (d - 7) (sq 7 pdp 0 0 f))))))))
def C8 (d y x : Nat) : Prop := (y < 8 ∧ x < 8) ∨ (y < 8 ∧ d - 8 ≤ x ∧ x < d) ∨ (d - 8 ≤ y ∧ y < d ∧ x < 8)
theorem ite_bd {c : Prop} [Decidable c] {a b : Int} (ha : 0 ≤ a) (hb : 0 ≤ b) : 0 ≤ (if c then a else b) := by split <;> assumption
theorem c8_out {d y x : Nat} (hd : 21 ≤ d) (f : Cells) (h : ¬ C8 d y x) : c8 d f y x = f y x := by
  unfold C8 at h
  unfold c8 vl hl sq
  rw [if_neg (by omega), if_neg (by omega), if_neg (by omega), if_neg (by omega), if_neg (by omega), if_neg (by omega), if_neg (by omega), if_neg (by omega), if_neg (by omega)]
theorem c8_in {d y x : Nat} (hd : 21 ≤ d) (f : Cells) (h : C8 d y x) : 0 ≤ c8 d f y x := by
  unfold C8 at h
  unfold c8 vl hl sq
  repeat' split
  all_goals first | exact (pdp_bd _ _).1 | exact Int.le_refl _ | (exfalso; omega)
end Go.QM
