/- The decoder's correction of a block without errors: correctErrors; The decoder reads the segments: digits, alphanumeric, bytes. Printed by segd.py; The decoder reads the segments: digits, alphanumeric, bytes. Printed by segd.py. -/
import Derived.Test.YtcekbhhpcmhicaaGreatDoorM06
import Derived.Test.YtcekbhhpcmhicaaGreatDoorM12
import Derived.Test.YtcekbhhpcmhicaaGreatDoorM22
import Derived.Test.YtcekbhhpcmhicaaGreatDoorM24
import Derived.Test.YtcekbhhpcmhicaaGreatDoorM28
import Derived.Deep.DeepCutAuto
namespace Go.Proofs.YtcekbhhpcmhicaaGreatDoor
open Go.RowKit Go.QW Go.QGF Go.QI Go.QV
/-- the decoder: its Reed-Solomon decoder RD over the field F -/
def DecOk (w : World) (D RD F : Nat) : Prop := Blk w D 162 #[.pointer (some ⟨RD, 0, none⟩)] ∧ Blk w RD 223 #[.pointer (some ⟨F, 0, none⟩)] ∧ Field w F
theorem DecOk.kp {w w' : World} {S : List Nat} {D RD F : Nat} (h : DecOk w D RD F) (hk : Kp S w w') (ho : Off w S [162, 223, 3, 330, 277]) : DecOk w' D RD F := by
  obtain ⟨h1, h2, h3⟩ := h
  refine ⟨h1.kp hk (fun hS => ho D hS _ _ h1 (by simp)), h2.kp hk (fun hS => ho RD hS _ _ h2 (by simp)), h3.kp hk (fun k hk' t arr hb ht => ho k hk' t arr hb (by simp only [List.mem_cons, List.not_mem_nil, or_false] at ht ⊢; exact .inr (.inr ht)))⟩
section
variable {w : World}
set_option maxHeartbeats 8000000 in
set_option maxRecDepth 100000 in
theorem correct_any {D RD F G n nd ec : Nat} {l : List Nat} (hD : DecOk w D RD F) (hG : Blk w G 5 (ints .u8 l)) (hn : n = l.length) (ok : Ok l) (h1 : 1 ≤ n) (h3 : n ≤ 5000) (hec : n = nd + ec) (h5 : ec ≤ 100) (hz : ∀ i, i < ec → ev (ex i) l = 0) :
    Calls Tryz.prog 213 #[.pointer (some ⟨D, 0, none⟩), .slice (some ⟨G, 0, none⟩) n n, .int .i64 nd] w fun e w' => e = .returned .nilIface ∧ Blk w' G 5 (ints .u8 l) ∧ Kp [G] w w' := by
  have hok : ∀ i, nth l i < 256 := fun i => by
    rcases Nat.lt_or_ge i l.length with h | h
    · rw [nth_get h]; exact ok _ (List.getElem_mem h)
    · rw [nth_ge h]; decide
  have HN := Lib.hid hn
  have hnn : n ≤ nd + ec ∧ nd + ec ≤ n := by omega
  clear hn hec
  have hmk := fun w => make_flat (P := Tryz.prog) (t := 138) (e := 3) (by kernel_rfl) (k := .i64) (b := 8) (by kernel_rfl) (by omega) n (n : Int) rfl (by omega) w
  go_enter Tryz.func213, Tryz.ntmps213
  go_wp2_with fail
  clear hmk
  have hI0 := Blk.new w 3 (ints .i64 (List.replicate n 0))
  have hk0 : Kp [] w (w.alloc (.cells (ints .i64 (List.replicate n 0)) 3)) := (Kp.refl [] w).alloc _
  obtain ⟨w1, hw1⟩ : ∃ w1, w1 = w.alloc (.cells (ints .i64 (List.replicate n 0)) 3) := ⟨_, rfl⟩
  rw [← hw1] at hI0 hk0 ⊢
  clear hw1
  obtain ⟨I, hI⟩ : ∃ I, I = w.heap.size := ⟨_, rfl⟩
  rw [← hI] at hI0 ⊢
  have hGl := hG.lt
  have hG1 := hG.kp hk0 (by simp)
  have hIw : w.heap.size ≤ I := by omega
  clear hI
  rw [← tab_zero] at hI0
  go_loopw [9] (fun t9 wr => ∃ i : Nat, i ≤ n ∧ t9 = .int .i64 (i : Nat) ∧ Blk wr I 3 (ints .i64 (tab n fun k => if k < i then nth l k else 0)) ∧ Kp [I] w1 wr) (fun t9 _ => n - (intOf t9).toNat)
  case atStart => exact ⟨0, by omega, rfl, by
    have e : (tab n fun k => if k < 0 then nth l k else 0) = tab n fun _ => 0 := tab_congr (fun i _ => by rw [if_neg (by omega)])
    rw [e]; exact hI0, Kp.refl _ _⟩
  case round =>
    obtain ⟨i, hi, rfl, hIr, hkr⟩ := hrel
    have hGr := hG1.kp hkr (by simp; omega)
    by_cases hlt : i < n
    · have hdi : decide ((i : Int) < (n : Int)) = true := by simp; omega
      have cg := hGr.cell i
      rw [ints_get (by rw [← HN.out]; exact hlt)] at cg
      have hb := hok i
      have hset := hIr.set_ i (.int .i64 (nth l i : Nat))
      rw [ints_set, tab_fill] at hset
      obtain ⟨b, hbe⟩ : ∃ b, b = nth l i := ⟨_, rfl⟩
      rw [← hbe] at cg hb hset
      have hand : bits .and .u8 (b : Int) 255 = (b : Int) := by
        have := u8_and b 255 hb (by omega)
        rw [show b &&& 255 = b from (Nat.and_two_pow_sub_one_eq_mod b 8).trans (Nat.mod_eq_of_lt hb)] at this
        exact this
      have ci := hIr.cell i
      rw [ints_get (by rw [tab_length]; exact hlt)] at ci
      obtain ⟨z, hz'⟩ : ∃ z, z = nth (tab n fun k => if k < i then nth l k else 0) i := ⟨_, rfl⟩
      rw [← hz'] at ci
      have fi := hIr.frozen i
      have HSET := Lib.hid hset
      clear hbe hset hz'
      go_wp2_with fail
      go_roundw
      case rel => exact ⟨i + 1, by omega, by go_num, HSET.out, hkr.setCell (by simp) _⟩
      case measure => simp [intOf]; omega
    · have hdi : decide ((i : Int) < (n : Int)) = false := by simp; omega
      have hie : i = n := by omega
      have e : (tab n fun k => if k < i then nth l k else 0) = l := by
        have := tab_nth l
        rw [← HN.out] at this
        rw [hie]
        exact (tab_congr (fun k hk => by rw [if_pos hk])).trans this
      rw [e] at hIr
      clear e hie
      have hkr0 : Kp [] w wr := (hk0.mono (by simp) : Kp [] w w1).trans hkr (by intro k hk hlt; simp at hk; omega)
      obtain ⟨d1, d2, d3⟩ := hD.kp hkr0 (by intro k hk; simp at hk)
      have hGr2 := hG.kp hkr0 (by simp)
      have a0 := d1.cell 0
      simp only [List.getElem?_toArray, List.getElem?_cons_zero] at a0
      have hne : (n : Int) - (nd : Int) = (ec : Int) := by omega
      go_wp2_with fail
      clear hne
      refine (decode_any RD F I n n ec l wr d3 d2 hIr HN.out ok h1 (by omega) h3 (by omega) h5 hz).mono ?_
      rintro e w2 ⟨rfl, hb2⟩
      have hs2 := hb2.size
      have hI2 := hIr.below hb2 hIr.lt
      have hG2 := hGr2.below hb2 hGr2.lt
      have hk2 : Kp [G] w w2 := (hkr0.mono (by simp) : Kp [G] w wr).trans (Kp.of_below hb2 : Kp [G] wr w2) (by intro i hi _; exact hi)
      clear a0 d1 d2 d3
      go_wp2_with fail
      obtain ⟨wo, rfl⟩ : ∃ wo : World, wo = wr := ⟨_, rfl⟩
      go_loopw [11] (fun t11 wr => ∃ i : Nat, i ≤ nd ∧ t11 = .int .i64 (i : Nat) ∧ Blk wr I 3 (ints .i64 l) ∧ Blk wr G 5 (ints .u8 l) ∧ Kp [G] w wr) (fun t11 _ => nd - (intOf t11).toNat)
      case atStart => exact ⟨0, by omega, rfl, hI2, hG2, hk2⟩
      case round =>
        obtain ⟨i, hi, rfl, hI3, hG3, hk3⟩ := hrel
        by_cases hlt2 : i < nd
        · have hdi2 : decide ((i : Int) < (nd : Int)) = true := by simp; omega
          have hil : i < l.length := by rw [← HN.out]; omega
          have hin : i < n := by omega
          have cg := hG3.cell i
          rw [ints_get hil] at cg
          have ci := hI3.cell i
          rw [ints_get hil] at ci
          have fg := hG3.frozen i
          have hb := hok i
          have hset := hG3.set_ i (.int .u8 (nth l i : Nat))
          rw [ints_set] at hset
          have hid : l.set i (nth l i) = l := by rw [nth_get hil]; exact List.set_getElem_self hil
          rw [hid] at hset
          have hIG : I ≠ G := hI3.ne_ hG3 (by decide)
          have hI4 := hI3.far (p := ⟨G, i, none⟩) hIG (.int .u8 (nth l i : Nat))
          have hk4 := hk3.setCell (p := ⟨G, i, none⟩) (by simp) (.int .u8 (nth l i : Nat))
          have HSET := Lib.hid (And.intro hset (And.intro hI4 hk4))
          clear hid hset hI4 hk4
          obtain ⟨b, hbe⟩ : ∃ b, b = nth l i := ⟨_, rfl⟩
          rw [← hbe] at cg ci hb HSET
          clear hbe
          go_wp2_with fail
          go_roundw
          case rel => exact ⟨i + 1, by omega, by go_num, HSET.out.2.1, HSET.out.1, HSET.out.2.2⟩
          case measure => simp [intOf]; omega
        · have hdi2 : decide ((i : Int) < (nd : Int)) = false := by simp; omega
          go_wp2_with fail
          go_ret
          exact ⟨rfl, hG3, hk3⟩
end
end Go.Proofs.YtcekbhhpcmhicaaGreatDoor
namespace Go.Proofs.YtcekbhhpcmhicaaGreatDoor
open Go.RowKit Go.QW
def U8 (x : Nat) : Value := .int .u8 (x : Nat)
theorem tab_fill0 (T q : Nat) (cw : List Nat) : (tab T fun i => if i < q then nth cw i else 0).set q (nth cw q) = tab T fun i => if i < q + 1 then nth cw i else 0 := by
  rw [tab_set]
  refine tab_congr (fun i _ => ?_)
  by_cases e : i = q
  · rw [if_pos e, if_pos (by omega), e]
  · rw [if_neg e]
    by_cases h : i < q
    · rw [if_pos h, if_pos (by omega)]
    · rw [if_neg h, if_neg (by omega)]
/-- the text read so far stands in the slice v, begun as v0; the source stands at bit q -/
structure SegS (w wr : World) (S g : Nat) (L : List Nat) (q rb : Nat) (v : Value) (xs : List Nat) : Prop where
  own : wr.ownsRow 0 5 1 v xs.length (xs.map U8)
  src : Bs wr S g L q
  kp : Kp [S, rb] w wr
  vb : ∀ k, v.ownBlock = some k → k = rb ∨ w.heap.size ≤ k
theorem SegS.off {w wr : World} {S g q rb : Nat} {L : List Nat} {v : Value} {xs : List Nat} (h : SegS w wr S g L q rb v xs) : S ∉ v.ownBlock.toList := own_ne h.own h.src.src (by decide)
theorem SegS.read {w wr w2 : World} {S g q q2 rb : Nat} {L : List Nat} {v : Value} {xs : List Nat} (h : SegS w wr S g L q rb v xs) (hb : Bs w2 S g L q2) (hk : Kp [S] wr w2) : SegS w w2 S g L q2 rb v xs :=
  ⟨ownsRow_kp h.own hk (fun k hk' hS => h.off (by rw [hk']; simp only [List.mem_cons, List.not_mem_nil, or_false] at hS; simp [hS])), hb, h.kp.trans hk (by intro i hi _; simp at hi; simp [hi]), h.vb⟩
theorem SegS.app {w wr w5 : World} {S g q rb : Nat} {L : List Nat} {v v5 : Value} {xs : List Nat} {x : Nat} (h : SegS w wr S g L q rb v xs) (ho : w5.ownsRow 0 5 1 v5 (xs.length + 1) (xs.map U8 ++ [U8 x])) (hk : Kp v.ownBlock.toList (wr.alloc (.cells #[U8 x] 5)) w5)
    (hv : v5.ownBlock = v.ownBlock ∨ v5.ownBlock = some (wr.alloc (.cells #[U8 x] 5)).heap.size) (hg : g ≠ rb) (hgw : g < w.heap.size) : SegS w w5 S g L q rb v5 (xs ++ [x]) := by
  have hs := h.kp.size
  have hk0 : Kp v.ownBlock.toList wr w5 := ((Kp.refl _ wr).alloc _).trans hk (by intro i hi _; exact hi)
  have hvv : ∀ k, k ∈ v.ownBlock.toList → k = rb ∨ w.heap.size ≤ k := fun k hk' => h.vb k (by simpa using hk')
  refine ⟨by simpa using ho, h.src.kp hk0 h.off (fun hS => by have := hvv g hS; omega), h.kp.trans hk0 (by
    intro i hi hlt
    have := hvv i hi
    simp only [List.mem_cons, List.not_mem_nil, or_false]; omega), fun k hk' => ?_⟩
  rcases hv with hv | hv
  · exact h.vb k (by rw [← hv]; exact hk')
  · rw [hv] at hk'
    injection hk' with hk'
    rw [World.size_alloc] at hk'
    omega
/-- the post of a segment: the text xs, and what follows it -/
def SegPost (w : World) (S g : Nat) (L : List Nat) (rb : Nat) (xs : List Nat) (t : List Bool) (e : Ending) (w' : World) : Prop :=
  ∃ v q, e = .returned (.tuple #[v, .nilIface]) ∧ SegS w w' S g L q rb v xs ∧ HasEx L q t
section
variable {w : World} {S g p rb : Nat} {L l : List Nat} {t : List Bool}
theorem readbitsI_any (n : Nat) {m : Int} (hm : m = n) (h : Bs w S g L p) (hn : 1 ≤ n) (hn2 : n ≤ 16) (hr : p + n ≤ 8 * L.length) :
    Calls Tryz.prog 244 #[.pointer (some ⟨S, 0, none⟩), .int .i64 m] w fun e w' => e = .returned (.tuple #[.int .i64 ((valAt L p n : Nat) : Int), .nilIface]) ∧ Bs w' S g L (p + n) ∧ Kp [S] w w' := by subst hm; exact readbits_any n h hn hn2 hr
theorem take_3 (l : List Nat) (k : Nat) (h : k + 2 < l.length) : l.take (k + 3) = l.take k ++ [nth l k] ++ [nth l (k + 1)] ++ [nth l (k + 2)] := by
  rw [take_snocN l (k + 2) (by omega), take_snocN l (k + 1) (by omega), take_snocN l k (by omega)]
set_option maxHeartbeats 16000000 in
set_option maxRecDepth 100000 in
theorem segNum_any {n : Nat} (h : Bs w S g L p) (hH : HasEx L p (numSeg l ++ t)) (hd : ∀ k, k < l.length → 48 ≤ nth l k ∧ nth l k ≤ 57) (hn : n = l.length) (hl : l.length ≤ 1000) (hrb : Blk w rb 5 (ints .u8 (List.replicate 50 0))) (hg : g ≠ rb) :
    Calls Tryz.prog 249 #[.pointer (some ⟨S, 0, none⟩), .slice (some ⟨rb, 0, none⟩) 0 50, .int .i64 n] w (SegPost w S g L rb l t) := by
  have hgw := h.byt.lt
  have hnl : n ≤ 1000 := by omega
  have HN := Lib.hid hn
  have HD := Lib.hid hd
  have HH := Lib.hid hH
  clear hn hd hH hl
  have hS0 : SegS w w S g L p rb (.slice (some ⟨rb, 0, none⟩) 0 50) [] :=
    ⟨⟨rfl, .inr ⟨rb, 50, ints .u8 (List.replicate 50 0), rfl, Nat.zero_le _, hrb, Nat.zero_le _, by simp [maxLen], by rfl, by simp⟩⟩, h, Kp.refl _ _, fun k hk => .inl (by simp [Value.ownBlock] at hk; exact hk.symm)⟩
  go_enter Tryz.func249, Tryz.ntmps249
  go_wp2_with fail
  go_loopw [1, 2] (fun s1 t2 wr => ∃ (k c q : Nat) (xs : List Nat) (v : Value), v = s1 ∧ (k + c ≤ n ∧ n ≤ k + c) ∧ t2 = .int .i64 (c : Nat) ∧ Hid (xs = l.take k) ∧ SegS w wr S g L q rb v xs ∧ Hid (HasEx L q (numSeg (l.drop k) ++ t))) (fun _ t2 _ => (intOf t2).toNat)
  case atStart => exact ⟨0, n, p, [], _, rfl, by omega, rfl, Lib.hid (by simp), hS0, Lib.hid (by simpa using HH.out)⟩
  case round =>
    obtain ⟨W9, rfl⟩ : ∃ W, W = wr := ⟨_, rfl⟩
    obtain ⟨k, c, q, xs0, v0, rfl, hkc, rfl, HX, hS9, HA⟩ := hrel
    clear hS0
    have hxl0 : xs0.length ≤ 2000 := by rw [HX.out, List.length_take]; have := HN.out; omega
    by_cases h3 : 3 ≤ c
    · have d3 : decide ((3 : Int) ≤ (c : Int)) = true := by simp; omega
      obtain ⟨x, hx, hx1, ha, hb, hc, hA2, hroom⟩ := num3 L l q k t (by have := HN.out; omega) HD.out HA.out
      have hda := HD.out k (by have := HN.out; omega)
      have hdb := HD.out (k + 1) (by have := HN.out; omega)
      have hdc := HD.out (k + 2) (by have := HN.out; omega)
      have htk := take_3 l k (by have := HN.out; omega)
      obtain ⟨a, hae⟩ : ∃ a, a = nth l k := ⟨_, rfl⟩
      obtain ⟨b, hbe⟩ : ∃ b, b = nth l (k + 1) := ⟨_, rfl⟩
      obtain ⟨cc, hce⟩ : ∃ cc, cc = nth l (k + 2) := ⟨_, rfl⟩
      rw [← hae] at ha hda htk
      rw [← hbe] at hb hdb htk
      rw [← hce] at hc hdc htk
      have ea : 48 + (x : Int) / 100 = (a : Int) := by omega
      have eb : 48 + (x : Int) / 10 % 10 = (b : Int) := by omega
      have ec : 48 + (x : Int) % 10 = (cc : Int) := by omega
      have dx : decide ((1000 : Int) ≤ (x : Int)) = false := by simp; omega
      have HTK := Lib.hid htk
      have HXV := Lib.hid hx
      have HA2 := Lib.hid hA2
      clear hae hbe hce ha hb hc hx htk hA2
      have hsrc := hS9.src
      go_wp2_with fail
      refine (readbitsI_any 10 rfl hsrc (by omega) (by omega) hroom).mono ?_
      rintro e W0 ⟨rfl, hB0, hk0⟩
      rw [HXV.out]
      have hS0 := hS9.read hB0 hk0
      clear hS9 hB0 hk0 hsrc
      have HOWN0 := Lib.hid hS0.own
      have HS0 := Lib.hid hS0
      clear hS0
      go_upto_region 8 with (first
        | (at_builtin; refine wpList_append1 (.tmp 34) (.tmp 39) (t := 30) Tryz.underlying30 (e := 5) (z := .int .u8 0) (b := 1) (by kernel_rfl) rfl rfl rfl (by decide) (v := v0) (n := xs0.length) (xs := xs0.map U8) rfl (HOWN0.out.alloc _) (ad := ⟨W0.heap.size, 0, none⟩) (c := 1) (u := U8 a) rfl ((Blk.new W0 _ _).cell 0) rfl (by omega) ?_; intro v1 W1 hown1 hk1 hv1))
      have hS1 := HS0.out.app (x := a) hown1 hk1 hv1 hg hgw
      clear hown1 hk1 hv1 HOWN0
      obtain ⟨xs1, hxs1⟩ : ∃ xs', xs' = xs0 ++ [a] := ⟨_, rfl⟩
      rw [← hxs1] at hS1
      have hxl1 : xs1.length ≤ 2001 := by rw [hxs1]; simp only [List.length_append, List.length_cons, List.length_nil]; omega
      have HXS1 := Lib.hid hxs1
      clear hxs1 hxl0
      have HOWN1 := Lib.hid hS1.own
      have HS1 := Lib.hid hS1
      clear hS1
      go_upto_region 9 with (first
        | (at_builtin; refine wpList_append1 (.tmp 41) (.tmp 47) (t := 30) Tryz.underlying30 (e := 5) (z := .int .u8 0) (b := 1) (by kernel_rfl) rfl rfl rfl (by decide) (v := v1) (n := xs1.length) (xs := xs1.map U8) rfl (HOWN1.out.alloc _) (ad := ⟨W1.heap.size, 0, none⟩) (c := 1) (u := U8 b) rfl ((Blk.new W1 _ _).cell 0) rfl (by omega) ?_; intro v2 W2 hown2 hk2 hv2))
      have hS2 := HS1.out.app (x := b) hown2 hk2 hv2 hg hgw
      clear hown2 hk2 hv2 HOWN1
      obtain ⟨xs2, hxs2⟩ : ∃ xs', xs' = xs1 ++ [b] := ⟨_, rfl⟩
      rw [← hxs2] at hS2
      have hxl2 : xs2.length ≤ 2002 := by rw [hxs2]; simp only [List.length_append, List.length_cons, List.length_nil]; omega
      have HXS2 := Lib.hid hxs2
      clear hxs2 hxl1
      have HOWN2 := Lib.hid hS2.own
      have HS2 := Lib.hid hS2
      clear hS2
      go_wp2_with (first
        | (at_builtin; refine wpList_append1 (.tmp 49) (.tmp 54) (t := 30) Tryz.underlying30 (e := 5) (z := .int .u8 0) (b := 1) (by kernel_rfl) rfl rfl rfl (by decide) (v := v2) (n := xs2.length) (xs := xs2.map U8) rfl (HOWN2.out.alloc _) (ad := ⟨W2.heap.size, 0, none⟩) (c := 1) (u := U8 cc) rfl ((Blk.new W2 _ _).cell 0) rfl (by omega) ?_; intro v3 W3 hown3 hk3 hv3))
      have hS3 := HS2.out.app (x := cc) hown3 hk3 hv3 hg hgw
      clear hown3 hk3 hv3 HOWN2
      obtain ⟨xs3, hxs3⟩ : ∃ xs', xs' = xs2 ++ [cc] := ⟨_, rfl⟩
      rw [← hxs3] at hS3
      have hxl3 : xs3.length ≤ 2003 := by rw [hxs3]; simp only [List.length_append, List.length_cons, List.length_nil]; omega
      have HXS3 := Lib.hid hxs3
      clear hxs3 hxl2
      go_wp2_with fail
      go_roundw
      case rel =>
        refine ⟨k + 3, c - 3, q + 10, xs3, _, rfl, by omega, congrArg (Value.int .i64) (by omega), Lib.hid ?_, hS3, HA2⟩
        rw [HXS3.out, HXS2.out, HXS1.out, HX.out, HTK.out]
      case measure => simp [intOf]; omega
    · have d3 : decide ((3 : Int) ≤ (c : Int)) = false := by simp; omega
      by_cases h2 : c = 2
      · subst h2
        obtain ⟨x, hx, hx1, ha, hb, hA2, hroom⟩ := num2 L l q k t (by have := HN.out; omega) HD.out HA.out
        have hda := HD.out k (by have := HN.out; omega)
        have hdb := HD.out (k + 1) (by have := HN.out; omega)
        have htk : l = l.take k ++ [nth l k] ++ [nth l (k + 1)] := by
          rw [← take_snocN l k (by have := HN.out; omega), ← take_snocN l (k + 1) (by have := HN.out; omega), List.take_of_length_le (by have := HN.out; omega)]
        obtain ⟨a, hae⟩ : ∃ a, a = nth l k := ⟨_, rfl⟩
        obtain ⟨b, hbe⟩ : ∃ b, b = nth l (k + 1) := ⟨_, rfl⟩
        rw [← hae] at ha hda htk
        rw [← hbe] at hb hdb htk
        have ea : 48 + (x : Int) / 10 = (a : Int) := by omega
        have eb : 48 + (x : Int) % 10 = (b : Int) := by omega
        have dx : decide ((100 : Int) ≤ (x : Int)) = false := by simp; omega
        have HTK := Lib.hid htk
        have HXV := Lib.hid hx
        have HA2 := Lib.hid hA2
        clear hae hbe ha hb hx htk hA2
        have hsrc := hS9.src
        go_wp2_with fail
        refine (readbitsI_any 7 rfl hsrc (by omega) (by omega) hroom).mono ?_
        rintro e W0 ⟨rfl, hB0, hk0⟩
        rw [HXV.out]
        have hS0 := hS9.read hB0 hk0
        clear hS9 hB0 hk0 hsrc
        have HOWN0 := Lib.hid hS0.own
        have HS0 := Lib.hid hS0
        clear hS0
        go_upto_region 18 with (first
          | (at_builtin; refine wpList_append1 (.tmp 78) (.tmp 83) (t := 30) Tryz.underlying30 (e := 5) (z := .int .u8 0) (b := 1) (by kernel_rfl) rfl rfl rfl (by decide) (v := v0) (n := xs0.length) (xs := xs0.map U8) rfl (HOWN0.out.alloc _) (ad := ⟨W0.heap.size, 0, none⟩) (c := 1) (u := U8 a) rfl ((Blk.new W0 _ _).cell 0) rfl (by omega) ?_; intro v1 W1 hown1 hk1 hv1))
        have hS1 := HS0.out.app (x := a) hown1 hk1 hv1 hg hgw
        clear hown1 hk1 hv1 HOWN0
        obtain ⟨xs1, hxs1⟩ : ∃ xs', xs' = xs0 ++ [a] := ⟨_, rfl⟩
        rw [← hxs1] at hS1
        have hxl1 : xs1.length ≤ 2001 := by rw [hxs1]; simp only [List.length_append, List.length_cons, List.length_nil]; omega
        have HXS1 := Lib.hid hxs1
        clear hxs1 hxl0
        have HOWN1 := Lib.hid hS1.own
        have HS1 := Lib.hid hS1
        clear hS1
        go_wp2_with (first
          | (at_builtin; refine wpList_append1 (.tmp 85) (.tmp 90) (t := 30) Tryz.underlying30 (e := 5) (z := .int .u8 0) (b := 1) (by kernel_rfl) rfl rfl rfl (by decide) (v := v1) (n := xs1.length) (xs := xs1.map U8) rfl (HOWN1.out.alloc _) (ad := ⟨W1.heap.size, 0, none⟩) (c := 1) (u := U8 b) rfl ((Blk.new W1 _ _).cell 0) rfl (by omega) ?_; intro v2 W2 hown2 hk2 hv2))
        have hS2 := HS1.out.app (x := b) hown2 hk2 hv2 hg hgw
        clear hown2 hk2 hv2 HOWN1
        obtain ⟨xs2, hxs2⟩ : ∃ xs', xs' = xs1 ++ [b] := ⟨_, rfl⟩
        rw [← hxs2] at hS2
        have hxl2 : xs2.length ≤ 2002 := by rw [hxs2]; simp only [List.length_append, List.length_cons, List.length_nil]; omega
        have HXS2 := Lib.hid hxs2
        clear hxs2 hxl1
        go_wp2_with fail
        go_ret2
        refine ⟨_, _, rfl, ?_, HA2.out⟩
        have e : xs2 = l := by rw [HXS2.out, HXS1.out, HX.out]; exact HTK.out.symm
        rw [e] at hS2
        exact hS2
      · have d2 : ((c : Int) == 2) = false := by rw [beq_eq_false_iff_ne]; omega
        by_cases h1 : c = 1
        · subst h1
          obtain ⟨x, hx, hx1, ha, hA2, hroom⟩ := num1 L l q k t (by have := HN.out; omega) HD.out HA.out
          have hda := HD.out k (by have := HN.out; omega)
          have htk : l = l.take k ++ [nth l k] := by
            rw [← take_snocN l k (by have := HN.out; omega), List.take_of_length_le (by have := HN.out; omega)]
          obtain ⟨a, hae⟩ : ∃ a, a = nth l k := ⟨_, rfl⟩
          rw [← hae] at ha hda htk
          have ea : 48 + (x : Int) = (a : Int) := by omega
          have dx : decide ((10 : Int) ≤ (x : Int)) = false := by simp; omega
          have HTK := Lib.hid htk
          have HXV := Lib.hid hx
          have HA2 := Lib.hid hA2
          clear hae ha hx htk hA2 d2
          have hsrc := hS9.src
          go_wp2_with fail
          refine (readbitsI_any 4 rfl hsrc (by omega) (by omega) hroom).mono ?_
          rintro e W0 ⟨rfl, hB0, hk0⟩
          rw [HXV.out]
          have hS0 := hS9.read hB0 hk0
          clear hS9 hB0 hk0 hsrc
          have HOWN0 := Lib.hid hS0.own
          have HS0 := Lib.hid hS0
          clear hS0
          go_wp2_with (first
            | (at_builtin; refine wpList_append1 (.tmp 112) (.tmp 116) (t := 30) Tryz.underlying30 (e := 5) (z := .int .u8 0) (b := 1) (by kernel_rfl) rfl rfl rfl (by decide) (v := v0) (n := xs0.length) (xs := xs0.map U8) rfl (HOWN0.out.alloc _) (ad := ⟨W0.heap.size, 0, none⟩) (c := 1) (u := U8 a) rfl ((Blk.new W0 _ _).cell 0) rfl (by omega) ?_; intro v1 W1 hown1 hk1 hv1))
          have hS1 := HS0.out.app (x := a) hown1 hk1 hv1 hg hgw
          clear hown1 hk1 hv1 HOWN0
          obtain ⟨xs1, hxs1⟩ : ∃ xs', xs' = xs0 ++ [a] := ⟨_, rfl⟩
          rw [← hxs1] at hS1
          have hxl1 : xs1.length ≤ 2001 := by rw [hxs1]; simp only [List.length_append, List.length_cons, List.length_nil]; omega
          have HXS1 := Lib.hid hxs1
          clear hxs1 hxl0
          go_wp2_with fail
          go_ret2
          refine ⟨_, _, rfl, ?_, HA2.out⟩
          have e : xs1 = l := by rw [HXS1.out, HX.out]; exact HTK.out.symm
          rw [e] at hS1
          exact hS1
        · obtain rfl : c = 0 := by omega
          have hA2 := num0 L l q k t (by have := HN.out; omega) HA.out
          have hxl : xs0 = l := by rw [HX.out, List.take_of_length_le (by have := HN.out; omega)]
          rw [hxl] at hS9
          clear hxl hxl0 HX h1 h2 d2 h3
          go_wp2_with fail
          go_ret2
          exact ⟨_, _, rfl, hS9, hA2⟩
end
end Go.Proofs.YtcekbhhpcmhicaaGreatDoor
namespace Go.Proofs.YtcekbhhpcmhicaaGreatDoor
open Go.RowKit Go.QW
section
variable {w : World} {S g p rb : Nat} {L l : List Nat} {t : List Bool}
def alStr : ByteArray := ⟨#[48, 49, 50, 51, 52, 53, 54, 55, 56, 57, 65, 66, 67, 68, 69, 70, 71, 72, 73, 74, 75, 76, 77, 78, 79, 80, 81, 82, 83, 84, 85, 86, 87, 88, 89, 90, 32, 36, 37, 42, 43, 45, 46, 47, 58]⟩
theorem alStr_all : ∀ i : Fin 45, (alStr.data.getD i.val 0).toNat = alChar i.val := by decide +kernel
theorem alStr_size : alStr.size = 45 := rfl
theorem alStr_get (x : Nat) (h : x < alStr.size) : (alStr[x]'h).toNat = alChar x := by
  have h45 : x < 45 := by rw [alStr_size] at h; exact h
  have := alStr_all ⟨x, h45⟩
  rw [← this]
  have e : alStr.data.getD x 0 = alStr[x]'h := by
    have h2 : x < alStr.data.size := h
    rw [Array.getD_eq_getD_getElem?, Array.getElem?_eq_getElem h2]; rfl
  simp only
  rw [e]
set_option maxHeartbeats 4000000 in
theorem toal_any (x : Nat) {xi : Int} (hxi : xi = x) (hx : x < 45) (w : World) :
    Calls Tryz.prog 278 #[.int .i64 xi] w fun e w' => e = .returned (.tuple #[.int .u8 (alChar x : Nat), .nilIface]) ∧ w = w' := by
  subst hxi
  have d1 : decide ((45 : Int) ≤ (x : Int)) = false := by simp; omega
  have e := alStr_get x (by rw [alStr_size]; exact hx)
  have E := Lib.hid e
  clear e
  go_enter Tryz.func278, Tryz.ntmps278
  go_wp2_with fail
  go_ret2
  exact ⟨by rw [← E.out]; rfl, rfl⟩
theorem take_2 (l : List Nat) (k : Nat) (h : k + 1 < l.length) : l.take (k + 2) = l.take k ++ [nth l k] ++ [nth l (k + 1)] := by
  rw [take_snocN l (k + 1) (by omega), take_snocN l k (by omega)]
set_option maxHeartbeats 16000000 in
set_option maxRecDepth 100000 in
theorem segAl_any {n : Nat} (h : Bs w S g L p) (hH : HasEx L p (alSeg l ++ t)) (hd : ∀ k, k < l.length → 0 ≤ alCode (nth l k)) (hn : n = l.length) (hl : l.length ≤ 1000) (hrb : Blk w rb 5 (ints .u8 (List.replicate 50 0))) (hg : g ≠ rb) :
    Calls Tryz.prog 250 #[.pointer (some ⟨S, 0, none⟩), .slice (some ⟨rb, 0, none⟩) 0 50, .int .i64 n, .bool false] w (SegPost w S g L rb l t) := by
  have hgw := h.byt.lt
  have hnl : n ≤ 1000 := by omega
  have HN := Lib.hid hn
  have HD := Lib.hid hd
  have HH := Lib.hid hH
  clear hn hd hH hl
  have hS0 : SegS w w S g L p rb (.slice (some ⟨rb, 0, none⟩) 0 50) [] :=
    ⟨⟨rfl, .inr ⟨rb, 50, ints .u8 (List.replicate 50 0), rfl, Nat.zero_le _, hrb, Nat.zero_le _, by simp [maxLen], by rfl, by simp⟩⟩, h, Kp.refl _ _, fun k hk => .inl (by simp [Value.ownBlock] at hk; exact hk.symm)⟩
  go_enter Tryz.func250, Tryz.ntmps250
  go_wp2_with fail
  go_loopw [1, 2] (fun s1 t2 wr => ∃ (k c q : Nat) (xs : List Nat) (v : Value), v = s1 ∧ (k + c ≤ n ∧ n ≤ k + c) ∧ t2 = .int .i64 (c : Nat) ∧ Hid (xs = l.take k) ∧ SegS w wr S g L q rb v xs ∧ Hid (HasEx L q (alSeg (l.drop k) ++ t))) (fun _ t2 _ => (intOf t2).toNat)
  case atStart => exact ⟨0, n, p, [], _, rfl, by omega, rfl, Lib.hid (by simp), hS0, Lib.hid (by simpa using HH.out)⟩
  case round =>
    obtain ⟨W9, rfl⟩ : ∃ W, W = wr := ⟨_, rfl⟩
    obtain ⟨k, c, q, xs0, v0, rfl, hkc, rfl, HX, hS9, HA⟩ := hrel
    clear hS0
    have hxl0 : xs0.length ≤ 2000 := by rw [HX.out, List.length_take]; have := HN.out; omega
    by_cases h3 : 1 < c
    · have d3 : decide ((1 : Int) < (c : Int)) = true := by simp; omega
      obtain ⟨x, hx, hx1, ha, hb, hA2, hroom⟩ := al2 L l q k t (by have := HN.out; omega) HD.out HA.out
      have hca := alChar_code _ _ ha
      have hcb := alChar_code _ _ hb
      have htk := take_2 l k (by have := HN.out; omega)
      obtain ⟨a, hae⟩ : ∃ a, a = nth l k := ⟨_, rfl⟩
      obtain ⟨b, hbe⟩ : ∃ b, b = nth l (k + 1) := ⟨_, rfl⟩
      rw [← hae] at hca htk
      rw [← hbe] at hcb htk
      have ea : (x : Int) / 45 = ((x / 45 : Nat) : Int) := rfl
      have HCA := Lib.hid hca
      have HCB := Lib.hid hcb
      have HTK := Lib.hid htk
      have HXV := Lib.hid hx
      have HA2 := Lib.hid hA2
      clear hae hbe ha hb hx htk hA2 hca hcb ea
      have hsrc := hS9.src
      go_wp2_with fail
      refine (readbitsI_any 11 rfl hsrc (by omega) (by omega) hroom).mono ?_
      rintro e W0 ⟨rfl, hB0, hk0⟩
      rw [HXV.out]
      have hS0 := hS9.read hB0 hk0
      clear hS9 hB0 hk0 hsrc
      go_wp2_with fail
      refine (toal_any (x / 45) (by omega) (by omega) W0).mono ?_
      rintro e w2' ⟨rfl, rfl⟩
      rw [HCA.out]
      have HOWN0 := Lib.hid hS0.own
      have HS0 := Lib.hid hS0
      clear hS0
      go_upto_region 10 with (first
        | (at_builtin; refine wpList_append1 (.tmp 43) (.tmp 45) (t := 30) Tryz.underlying30 (e := 5) (z := .int .u8 0) (b := 1) (by kernel_rfl) rfl rfl rfl (by decide) (v := v0) (n := xs0.length) (xs := xs0.map U8) rfl (HOWN0.out.alloc _) (ad := ⟨W0.heap.size, 0, none⟩) (c := 1) (u := U8 a) rfl ((Blk.new W0 _ _).cell 0) rfl (by omega) ?_; intro v1 W1 hown1 hk1 hv1))
      have hS1 := HS0.out.app (x := a) hown1 hk1 hv1 hg hgw
      clear hown1 hk1 hv1 HOWN0
      obtain ⟨xs1, hxs1⟩ : ∃ xs', xs' = xs0 ++ [a] := ⟨_, rfl⟩
      rw [← hxs1] at hS1
      have hxl1 : xs1.length ≤ 2001 := by rw [hxs1]; simp only [List.length_append, List.length_cons, List.length_nil]; omega
      have HXS1 := Lib.hid hxs1
      clear hxs1 hxl0
      go_wp2_with fail
      refine (toal_any (x % 45) (by omega) (by omega) W1).mono ?_
      rintro e w2' ⟨rfl, rfl⟩
      rw [HCB.out]
      have HOWN1 := Lib.hid hS1.own
      have HS1 := Lib.hid hS1
      clear hS1
      go_upto_region 12 with (first
        | (at_builtin; refine wpList_append1 (.tmp 53) (.tmp 55) (t := 30) Tryz.underlying30 (e := 5) (z := .int .u8 0) (b := 1) (by kernel_rfl) rfl rfl rfl (by decide) (v := v1) (n := xs1.length) (xs := xs1.map U8) rfl (HOWN1.out.alloc _) (ad := ⟨W1.heap.size, 0, none⟩) (c := 1) (u := U8 b) rfl ((Blk.new W1 _ _).cell 0) rfl (by omega) ?_; intro v2 W2 hown2 hk2 hv2))
      have hS2 := HS1.out.app (x := b) hown2 hk2 hv2 hg hgw
      clear hown2 hk2 hv2 HOWN1
      obtain ⟨xs2, hxs2⟩ : ∃ xs', xs' = xs1 ++ [b] := ⟨_, rfl⟩
      rw [← hxs2] at hS2
      have hxl2 : xs2.length ≤ 2002 := by rw [hxs2]; simp only [List.length_append, List.length_cons, List.length_nil]; omega
      have HXS2 := Lib.hid hxs2
      clear hxs2 hxl1
      go_wp2_with fail
      go_roundw
      case rel =>
        refine ⟨k + 2, c - 2, q + 11, xs2, _, rfl, by omega, congrArg (Value.int .i64) (by omega), Lib.hid ?_, hS2, HA2⟩
        rw [HXS2.out, HXS1.out, HX.out, HTK.out]
      case measure => simp [intOf]; omega
    · have d3 : decide ((1 : Int) < (c : Int)) = false := by simp; omega
      by_cases h1 : c = 1
      · subst h1
        obtain ⟨x, hx, hx1, ha, hA2, hroom⟩ := al1 L l q k t (by have := HN.out; omega) HD.out HA.out
        have hca := alChar_code _ _ ha
        have htk : l = l.take k ++ [nth l k] := by
          rw [← take_snocN l k (by have := HN.out; omega), List.take_of_length_le (by have := HN.out; omega)]
        obtain ⟨a, hae⟩ : ∃ a, a = nth l k := ⟨_, rfl⟩
        rw [← hae] at hca htk
        have HCA := Lib.hid hca
        have HTK := Lib.hid htk
        have HXV := Lib.hid hx
        have HA2 := Lib.hid hA2
        clear hae ha hx htk hA2 hca
        have hsrc := hS9.src
        go_wp2_with fail
        refine (readbitsI_any 6 rfl hsrc (by omega) (by omega) hroom).mono ?_
        rintro e W0 ⟨rfl, hB0, hk0⟩
        rw [HXV.out]
        have hS0 := hS9.read hB0 hk0
        clear hS9 hB0 hk0 hsrc
        go_wp2_with fail
        refine (toal_any x rfl (by omega) W0).mono ?_
        rintro e w2' ⟨rfl, rfl⟩
        rw [HCA.out]
        have HOWN0 := Lib.hid hS0.own
        have HS0 := Lib.hid hS0
        clear hS0
        go_upto_region 21 with (first
          | (at_builtin; refine wpList_append1 (.tmp 81) (.tmp 83) (t := 30) Tryz.underlying30 (e := 5) (z := .int .u8 0) (b := 1) (by kernel_rfl) rfl rfl rfl (by decide) (v := v0) (n := xs0.length) (xs := xs0.map U8) rfl (HOWN0.out.alloc _) (ad := ⟨W0.heap.size, 0, none⟩) (c := 1) (u := U8 a) rfl ((Blk.new W0 _ _).cell 0) rfl (by omega) ?_; intro v1 W1 hown1 hk1 hv1))
        have hS1 := HS0.out.app (x := a) hown1 hk1 hv1 hg hgw
        clear hown1 hk1 hv1 HOWN0
        obtain ⟨xs1, hxs1⟩ : ∃ xs', xs' = xs0 ++ [a] := ⟨_, rfl⟩
        rw [← hxs1] at hS1
        have hxl1 : xs1.length ≤ 2001 := by rw [hxs1]; simp only [List.length_append, List.length_cons, List.length_nil]; omega
        have HXS1 := Lib.hid hxs1
        clear hxs1 hxl0
        go_wp2_with fail
        go_ret2
        refine ⟨_, _, rfl, ?_, HA2.out⟩
        have e : xs1 = l := by rw [HXS1.out, HX.out]; exact HTK.out.symm
        rw [e] at hS1
        exact hS1
      · obtain rfl : c = 0 := by omega
        have hA2 := al0 L l q k t (by have := HN.out; omega) HA.out
        have hxl : xs0 = l := by rw [HX.out, List.take_of_length_le (by have := HN.out; omega)]
        rw [hxl] at hS9
        clear hxl hxl0 HX h1 h3
        go_wp2_with fail
        go_ret2
        exact ⟨_, _, rfl, hS9, hA2⟩
end
end Go.Proofs.YtcekbhhpcmhicaaGreatDoor
