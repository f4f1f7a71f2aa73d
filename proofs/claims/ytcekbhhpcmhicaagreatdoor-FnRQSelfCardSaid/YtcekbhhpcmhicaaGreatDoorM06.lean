/- Division by a generator; More words on memory: slices that grow; The generator is built: NewReedSolomonEncoder, buildGenerator; A block's check numbers are computed: ReedSolomonEncoder.Encode. -/
import Derived.Test.YtcekbhhpcmhicaaGreatDoorM02
import Derived.Test.YtcekbhhpcmhicaaGreatDoorM05
import Derived.Deep.LoopGhost
import Derived.Maps.AppendAt
import Derived.OwnWalk
namespace Go.Proofs.YtcekbhhpcmhicaaGreatDoor
open Go.RowKit Go.QW Go.QGF

theorem deg_any (F p : Nat) (cs : List Nat) (w : World) (hp : Poly w F p cs) (hl : cs.length ≤ 100000) :
    Calls Tryz.prog 232 #[.pointer (some ⟨p, 0, none⟩)] w fun e w' => e = .returned (.int .i64 ((cs.length : Int) - 1)) ∧ w = w' := by
  obtain ⟨g, off, cap, hb, hr, hcap, hcap2⟩ := hp.rd
  have b1 := hb.cell 1
  simp only [List.getElem?_toArray, List.getElem?_cons_zero, List.getElem?_cons_succ] at b1
  go_enter Tryz.func232, Tryz.ntmps232
  go_wp2
  go_ret
  exact ⟨rfl, rfl⟩
theorem iszero_any (F p : Nat) (cs : List Nat) (w : World) (hp : Poly w F p cs) (hl : 0 < cs.length) :
    Calls Tryz.prog 230 #[.pointer (some ⟨p, 0, none⟩)] w fun e w' => e = .returned (.bool (((nth cs 0 : Nat) : Int) == 0)) ∧ w = w' := by
  obtain ⟨g, off, cap, hb, hr, hcap, hcap2⟩ := hp.rd
  have b1 := hb.cell 1
  have b2 := hr.at_ hl
  rw [Nat.add_zero] at b2
  simp only [List.getElem?_toArray, List.getElem?_cons_zero, List.getElem?_cons_succ] at b1
  have hlI : (0 : Int) < (cs.length : Int) := by omega
  go_enter Tryz.func230, Tryz.ntmps230
  go_wp2
  go_ret
  exact ⟨rfl, rfl⟩
theorem Poly.cell0 {w : World} {F p : Nat} {cs : List Nat} (h : Poly w F p cs) : w.cell? ⟨p, 0, none⟩ = some (.pointer (some ⟨F, 0, none⟩)) ∧ p < w.heap.size := by
  obtain ⟨g, off, cap, hb, hr, hcap, hcap2⟩ := h.rd
  exact ⟨hb.cell 0, hb.lt⟩
theorem Field.zero {w : World} {F : Nat} (h : Field w F) : ∃ z, w.cell? ⟨F, 2, none⟩ = some (.pointer (some ⟨z, 0, none⟩)) ∧ Poly w F z [0] ∧ F < w.heap.size := by
  obtain ⟨ge, gl, z, o, hf, he, hl, hz, -⟩ := h.ex
  exact ⟨z, hf.cell 2, hz, hf.lt⟩

/-- what holds at the head of each round of division -/
def DivI (F : Nat) (ds cs : List Nat) (w : World) (k : Nat) (t4 t5 : Value) (wr : World) : Prop :=
  ∃ zq rp zs rs, t4 = .pointer (some ⟨zq, 0, none⟩) ∧ t5 = .pointer (some ⟨rp, 0, none⟩) ∧ Poly wr F zq zs ∧ V zs ∧ zs.length ≤ cs.length ∧ Poly wr F rp rs ∧ RestOf ds cs rs ∧ rs.length ≤ k ∧ Below w.heap.size w wr
theorem deg_quiet (F p : Nat) (cs : List Nat) (w : World) (n : Nat) (hp : Poly w F p cs) (hl : cs.length ≤ 100000) :
    Calls Tryz.prog 232 #[.pointer (some ⟨p, 0, none⟩)] (w.drewN n) fun e w'' => e = .returned (.int .i64 ((cs.length : Int) - 1)) ∧ ∃ m, w'' = w.drewN m :=
  Calls.quiet_of_same ((deg_any F p cs (w.drewN n) (hp.heap rfl) hl).mono fun _ _ h => ⟨h.1, h.2.symm⟩)
theorem coef_quiet (F p : Nat) (cs : List Nat) (d : Int) (w : World) (n : Nat) (hp : Poly w F p cs) (hd : 0 ≤ d) (hd' : d < cs.length) (hl : cs.length ≤ 10000) :
    Calls Tryz.prog 231 #[.pointer (some ⟨p, 0, none⟩), .int .i64 d] (w.drewN n) fun e w'' => e = .returned (.int .i64 (nth cs (cs.length - 1 - d.toNat) : Nat)) ∧ ∃ m, w'' = w.drewN m :=
  Calls.quiet_of (coef_any F p cs d _ (hp.heap rfl) hd hd' hl)

set_option maxHeartbeats 2000000 in
set_option maxRecDepth 100000 in
theorem div_any (F p q : Nat) (cs ds : List Nat) (w : World) (hF : Field w F) (hp : Poly w F p cs) (hq : Poly w F q ds) (v1 : V cs) (v2 : V ds) (h1 : ds.headD 0 = 1) (h2 : 2 ≤ ds.length) (hl1 : cs.length ≤ 5000) (hl2 : ds.length ≤ 1000) :
    Calls Tryz.prog 192 #[.pointer (some ⟨p, 0, none⟩), .pointer (some ⟨q, 0, none⟩)] w
      fun e w' => ∃ zq zr rs, e = .returned (.tuple #[.pointer (some ⟨zq, 0, none⟩), .pointer (some ⟨zr, 0, none⟩), .nilIface]) ∧ Poly w' F zr rs ∧ RestOf ds cs rs ∧ (rs.length < ds.length ∨ rs.headD 0 = 0) ∧ Below w.heap.size w w' := by
  obtain ⟨p0, hpl⟩ := hp.cell0
  obtain ⟨q0, hql⟩ := hq.cell0
  obtain ⟨z, f2, hz, hFl⟩ := hF.zero
  have hne := fun w => neq_ptr_same (P := Tryz.prog) Tryz.underlying159 (te := 277) (by kernel_rfl) ⟨F, 0, none⟩ w
  have hd0 : nth ds 0 = 1 := by rw [nth_zero]; exact h1
  have hzb : (((nth ds 0 : Nat) : Int) == 0) = false := by rw [hd0]; rfl
  have hq1 : 0 < ds.length := by omega
  have hlI : (2 : Int) ≤ (ds.length : Int) := by omega
  have hc1 : nth ds (ds.length - 1 - ((ds.length : Int) - 1).toNat) = 1 := by rw [show ds.length - 1 - ((ds.length : Int) - 1).toNat = 0 by omega]; exact hd0
  have HC1 := Lib.hid hc1
  have H0 := Lib.hid h1
  clear hd0 hc1 h1
  have hx1 : ex (255 - lg 1) = 1 := by decide +kernel
  go_enter Tryz.func192, Tryz.ntmps192
  go_wp2_with fail
  go_quiet (fail)
  go_wp2_with (first | (go_at_call 230; refine (iszero_any F q ds _ (by exact hq.heap rfl) hq1).mono ?_; rintro e w' ⟨rfl, rfl⟩) | (go_at_call 228; go_in) | (go_at_call 232; refine (deg_any F q ds _ (by exact hq.heap rfl) (by omega)).mono ?_; rintro e w' ⟨rfl, rfl⟩) | (go_at_call 231; refine (coef_any F q ds _ _ (by exact hq.heap rfl) (by omega) (by omega) (by omega)).mono ?_; rintro e w' ⟨rfl, n1, rfl⟩; rw [HC1.out]) | (go_at_call 233; refine (inv_any F _ _ (by exact hF.heap rfl) (by omega) (by omega)).mono ?_; rintro e w' ⟨rfl, n2, rfl⟩))
  have hz0 : V [0] := ⟨by simp, by intro c hc; simp at hc; omega, .inl rfl⟩
  have hc1 := v1.pos
  go_loopg [4, 5] cs.length (fun k t4 t5 wr => DivI F ds cs w k t4 t5 wr)
  case atStart => exact ⟨z, p, [0], cs, rfl, rfl, hz.heap rfl, hz0, hc1, hp.heap rfl, RestOf.refl v1, Nat.le_refl _, below_drewN (Below.refl _ _) _⟩
  case round =>
    obtain ⟨zq, rp, zs, rs, rfl, rfl, hzp, hzv, hzl, hrp, hrest, hk, hw⟩ := hrel
    have hsz := hw.size
    have hqr := hq.below hw
    have hFr := hF.below hw
    have hrl := hrest.2.1
    have hrv := hrest.1
    have hr1 := hrv.pos
    have hzl1 := hzv.pos
    by_cases hlen : rs.length < ds.length
    · have hdec : decide ((ds.length : Int) - 1 ≤ (rs.length : Int) - 1) = false := by simp; omega
      go_wp2_with fail
      refine (deg_any F rp rs _ hrp (by omega)).mono ?_
      rintro e w' ⟨rfl, rfl⟩
      go_wp2_with fail
      refine (deg_any F q ds _ hqr (by omega)).mono ?_
      rintro e w' ⟨rfl, rfl⟩
      go_wp2_with fail
      go_ret3
      exact ⟨zq, rp, rs, rfl, hrp, hrest, .inl hlen, hw⟩
    · have hdec : decide ((ds.length : Int) - 1 ≤ (rs.length : Int) - 1) = true := by simp; omega
      by_cases h0 : nth rs 0 = 0
      · have hb0 : (((nth rs 0 : Nat) : Int) == 0) = true := by simp [h0]
        have hh0 : rs.headD 0 = 0 := by rw [← nth_zero]; exact h0
        have HH := Lib.hid hh0
        clear h0 hh0
        go_wp2_with fail
        refine (deg_any F rp rs _ hrp (by omega)).mono ?_
        rintro e w' ⟨rfl, rfl⟩
        go_wp2_with fail
        refine (deg_any F q ds _ hqr (by omega)).mono ?_
        rintro e w' ⟨rfl, rfl⟩
        go_wp2_with fail
        refine (iszero_any F rp rs _ hrp hr1).mono ?_
        rintro e w' ⟨rfl, rfl⟩
        go_wp2_with fail
        go_ret3
        exact ⟨zq, rp, rs, rfl, hrp, hrest, .inr HH.out, hw⟩
      · have hb0 : (((nth rs 0 : Nat) : Int) == 0) = false := by simpa using h0
        have hh0 : rs.headD 0 ≠ 0 := by rw [← nth_zero]; exact h0
        have hst := RestOf.step v2 H0.out h2 hrest (by omega) hh0
        have hce : nth rs (rs.length - 1 - ((rs.length : Int) - 1).toNat) = nth rs 0 := by rw [show rs.length - 1 - ((rs.length : Int) - 1).toNat = 0 by omega]
        have hlt : nth rs 0 < 256 := hrv.ok.getD 0
        have hgm : gm (nth rs 0) 1 = nth rs 0 := gm_one hlt
        obtain ⟨dd, hdd⟩ : ∃ dd, dd = rs.length - ds.length := ⟨_, rfl⟩
        have hddI : (rs.length : Int) - 1 - ((ds.length : Int) - 1) = (dd : Int) := by omega
        rw [← nth_zero, ← hdd] at hst
        have hd1 : rs.length = ds.length + dd := by omega
        have HST := Lib.hid hst
        have HD1 := Lib.hid hd1
        have HCE := Lib.hid hce
        have HGM := Lib.hid hgm
        have hdb : dd ≤ 5000 := by omega
        clear h0 hh0 hst hdd hd1 hce hgm
        go_wp2_with fail
        refine (deg_any F rp rs _ hrp (by omega)).mono ?_
        rintro e w' ⟨rfl, rfl⟩
        go_wp2_with fail
        refine (deg_any F q ds _ hqr (by omega)).mono ?_
        rintro e w' ⟨rfl, rfl⟩
        go_wp2_with fail
        refine (iszero_any F rp rs _ hrp hr1).mono ?_
        rintro e w' ⟨rfl, rfl⟩
        go_wp2_with fail
        refine (deg_any F rp rs _ hrp (by omega)).mono ?_
        rintro e w' ⟨rfl, rfl⟩
        go_wp2_with fail
        refine (deg_any F q ds _ hqr (by omega)).mono ?_
        rintro e w' ⟨rfl, rfl⟩
        have p0' := (hw.cell (p := ⟨p, 0, none⟩) hpl).trans p0
        go_wp2_with fail
        go_quiet (first | (go_at_call 232; exact deg_quiet F rp rs _ _ hrp (by omega)) | (go_at_call 231; exact coef_quiet F rp rs _ _ _ hrp (by omega) (by omega) (by omega)) | (go_at_call 229; exact mul_quiet F _ _ _ _ hFr (by omega) (by have := HCE.out; omega) (by omega) (by omega)))
        go_wp2_with fail
        rw [HGM.out]
        refine (monoMul_any F q ds _ _ _ (by exact hFr.heap rfl) (by exact hqr.heap rfl) v2.ok (by omega) (by omega) (by omega) (by omega) (by omega) (by omega)).mono ?_
        rintro e w1 ⟨t, rfl, ht, hb1'⟩
        rw [Int.toNat_natCast, Int.toNat_natCast] at ht
        have hb1 := below_of_drewN hb1'
        clear hb1'
        have hs1 := hb1.size
        have hF1 := hFr.below hb1
        have p01 := (hb1.cell (p := ⟨p, 0, none⟩) (Nat.lt_of_lt_of_le hpl hsz)).trans p0'
        have hw1 := below_trans' hw hb1 hsz
        have HT := Lib.hid ht
        clear ht
        go_wp2_with fail
        rw [HGM.out]
        refine (mono_any F _ _ _ hF1 (by omega) (by omega) (by omega) (by omega)).mono ?_
        rintro e w2 ⟨it, rfl, hit, hb2⟩
        rw [Int.toNat_natCast, Int.toNat_natCast] at hit
        have hs2 := hb2.size
        have HIT := Lib.hid hit
        clear hit
        go_wp2_with fail
        have hl3 := mono_length dd (nth rs 0)
        have v3 := mono_V dd hlt
        have hd1 := HD1.out
        refine (add_any F zq it zs (mono dd (nth rs 0)) _ ((hzp.below hb1).below hb2) HIT.out hzl1 v3.pos (by omega) (by omega) hzv.ok v3.ok).mono ?_
        rintro e w3 ⟨zq', rfl, hz3, hb3⟩
        have hs3 := hb3.size
        have HZ3 := Lib.hid hz3
        have hb13 := below_trans' (below_trans' hb1 hb2 hs1) hb3 (by omega)
        have hl4 : (monoMul ds dd (nth rs 0)).length ≤ 10000 := by
          rw [show dd = rs.length - ds.length by omega]
          by_cases h : nth rs 0 = 0
          · unfold monoMul; rw [if_pos h]; simp
          · rw [monoMul_eq (by rw [H0.out]; decide) _ h]; simp; omega
        have v4 : V (monoMul ds dd (nth rs 0)) := monoMul_V _ _
        clear hz3 hd1
        go_wp2_with fail
        refine (add_any F rp t rs (monoMul ds dd (nth rs 0)) _ (hrp.below hb13) ((HT.out.below hb2).below hb3) hr1 v4.pos (by omega) hl4 hrv.ok v4.ok).mono ?_
        rintro e w4 ⟨rp', rfl, hr4, hb4⟩
        have HR4 := Lib.hid hr4
        clear hr4
        go_wp2_with fail
        go_roundg ((addP rs (monoMul ds dd (nth rs 0))).length)
        case measure => have := HST.out.2; omega
        case rel =>
          refine ⟨zq', rp', _, _, rfl, rfl, HZ3.out.below hb4, addP_V hzv v3, ?_, HR4.out, HST.out.1, Nat.le_refl _, below_trans' (below_trans' hw hb13 hsz) hb4 (by omega)⟩
          have := addP_length hzv.ne v3.ne
          have := HD1.out
          have := v2.pos
          omega
end Go.Proofs.YtcekbhhpcmhicaaGreatDoor
namespace Go.QW
open Go Go.RowKit

/-- append of one element onto a slice of one's own: where the walk stands at the operation half run -/
theorem upon_append1 {P : Program} {W : World} {o : Oper} {a : Act} {next : Act → World → Prop} {Q : Exit → Act → World → Prop} {t ty e : TypeId} (ht : P.underlying t = some (.slice e)) {z : Value} {b : Nat}
    (hi : (P.info? e).map (fun i => (i.zero, i.size, i.bytes)) = some (some z, 1, b)) (hz : z.cells.size = 1) (hb : b ≤ 64) {v : Value} {n : Nat} {xs : List Value} (hown : W.ownsRow 0 e 1 v n xs) {ad : Addr} {c : Nat} {u : Value}
    (hc : W.cell? ad = some u) (h1 : u.oneCell' = true) (hn : n ≤ 1000000000)
    (h : ∀ v' w', w'.ownsRow 0 e 1 v' (n + 1) (xs ++ [u]) → Kp v.ownBlock.toList W w' → (v'.ownBlock = v.ownBlock ∨ v'.ownBlock = some W.heap.size) → next (a.put o.dst v') w') :
    Oper.upon P o a next Q ((Sem.run P (Builtin.append_ #[t, t] ty #[v, .slice (some ad) 1 c]) W).andThen fun a w' => .ok (.value a) w') := by
  obtain ⟨i, hi1, hz1, hs, hb'⟩ := info_parts hi
  obtain ⟨v', w', hrun, h2, h3, -, h5⟩ := run_append_own_at (P := P) W 0 t ty e i z 1 b ht hi1 hz1 hs hb' hz (by decide) v n xs hown ad 1 c [u] rfl (by
    intro j x hx
    cases j with
    | zero => simp at hx; subst hx; exact hc
    | succ j => simp at hx) (by intro x hx; simp at hx; subst hx; exact h1) (by simp only [maxLen]; omega) (by
      have : (n + 1) * b ≤ (n + 1) * 64 := Nat.mul_le_mul_left _ hb
      omega) (Nat.zero_le _)
  rw [hrun]
  refine h v' w' h2 ⟨h3.os, h3.tape, h3.output, h3.size, fun k hk hn' => h3.block k hk (fun e => hn' (by rw [← e]; simp))⟩ h5

theorem Kp.below_of {S : List Nat} {B : Nat} {w0 w w' : World} (hk : Kp S w w') (hb : Below B w0 w) (hB : B ≤ w.heap.size) (hS : ∀ k, k ∈ S → B ≤ k) : Below B w0 w' := below_of_kp hb hk hB hS
theorem ownsRow_drewN {w : World} {base : Nat} {e : TypeId} {size : Nat} {v : Value} {n : Nat} {xs : List Value} (h : w.ownsRow base e size v n xs) (k : Nat) : (w.drewN k).ownsRow base e size v n xs := h
theorem ownsRow_kp {w w' : World} {S : List Nat} {base : Nat} {e : TypeId} {size : Nat} {v : Value} {n : Nat} {xs : List Value} (h : w.ownsRow base e size v n xs) (hk : Kp S w w') (hne : ∀ g, v.ownBlock = some g → g ∉ S) : w'.ownsRow base e size v n xs := by
  obtain ⟨h1, h2⟩ := h
  refine ⟨h1, ?_⟩
  rcases h2 with h2 | ⟨g, cap, cur, hv, hg, hh, r⟩
  · exact .inl h2
  · refine .inr ⟨g, cap, cur, hv, hg, ?_, r⟩
    have hlt : g < w.heap.size := by
      rcases Nat.lt_or_ge g w.heap.size with h | h
      · exact h
      · rw [Array.getElem?_eq_none h] at hh; cases hh
    rw [hk.block g hlt (hne g (by rw [hv]; rfl))]
    exact hh
theorem ownsRow_lit1 (w : World) (e : TypeId) (u : Value) : (w.alloc (.cells #[u] e)).ownsRow 0 e 1 (.slice (some ⟨w.heap.size, 0, none⟩) 1 1) 1 [u] :=
  ⟨rfl, .inr ⟨w.heap.size, 1, #[u], rfl, Nat.zero_le _, heap_alloc_new w _, Nat.le_refl _, by simp [maxLen], rfl, rfl⟩⟩
theorem ownsRow_form {w : World} {e : TypeId} {v : Value} {n : Nat} {xs : List Value} (h : w.ownsRow 0 e 1 v n xs) (hn : 0 < n) :
    ∃ g cap, v = .slice (some ⟨g, 0, none⟩) n cap ∧ g < w.heap.size ∧ n ≤ cap ∧ cap ≤ maxLen ∧ (∀ i, i < n → w.cell? ⟨g, i, none⟩ = xs[i]?) ∧ (∀ i, w.frozen? ⟨g, i, none⟩ = false) ∧ xs.length = n := by
  obtain ⟨h1, h2⟩ := h
  rcases h2 with ⟨_, h2⟩ | ⟨g, cap, cur, hv, hg, hh, hc, hm, hs, ht⟩
  · omega
  · refine ⟨g, cap, hv, ?_, hc, hm, fun i hi => ?_, fun i => ?_, by simpa using h1⟩
    · rcases Nat.lt_or_ge g w.heap.size with h | h
      · exact h
      · rw [Array.getElem?_eq_none h] at hh; cases hh
    · rw [cell_of_row w g i cur e (0, 0) hh, ← ht, List.getElem?_take_of_lt (by omega), Array.getElem?_toList]
    · simp [World.frozen?, hh]
/-- append of one element onto a slice of one's own, for the walk (at at_builtin) -/
theorem wpList_append1 {P : Program} {w : World} {ops : Array Oper} {rest : List Oper} {o : Oper} {a : Act} {Q : Exit → Act → World → Prop} (s x : Operand) {t e : TypeId} (ht : P.underlying t = some (.slice e)) {z : Value} {b : Nat}
    (hi : (P.info? e).map (fun i => (i.zero, i.size, i.bytes)) = some (some z, 1, b)) (hgd : o.guard = none) (ho : o.op = .call { callee := .builtin .append, args := #[s, x], argTypes := #[t, t] }) (hz : z.cells.size = 1) (hb : b ≤ 64) {v : Value} {n : Nat} {xs : List Value} (hs : a.eval s = v) (hown : w.ownsRow 0 e 1 v n xs)
    {ad : Addr} {c : Nat} {u : Value} (hx : a.eval x = .slice (some ad) 1 c) (hc : w.cell? ad = some u) (h1 : u.oneCell' = true) (hn : n ≤ 1000000000)
    (h : ∀ v' w', w'.ownsRow 0 e 1 v' (n + 1) (xs ++ [u]) → Kp v.ownBlock.toList w w' → (v'.ownBlock = v.ownBlock ∨ v'.ownBlock = some w.heap.size) → wpList P ops Q rest (a.put o.dst v') w') :
    wpList P ops Q (o :: rest) a w := by
  obtain ⟨i, hi1, hz1, hs', hb'⟩ := info_parts hi
  obtain ⟨v', w', hrun, h2, h3, -, h5⟩ := run_append_own_at (P := P) w 0 t o.type e i z 1 b ht hi1 hz1 hs' hb' hz (by decide) v n xs hown ad 1 c [u] rfl (by
    intro j x hx
    cases j with
    | zero => simp at hx; subst hx; exact hc
    | succ j => simp at hx) (by intro x hx; simp at hx; subst hx; exact h1) (by simp only [maxLen]; omega) (by
      have : (n + 1) * b ≤ (n + 1) * 64 := Nat.mul_le_mul_left _ hb
      omega) (Nat.zero_le _)
  refine wpList_plain hgd fun _ hK => ?_
  have hop : ∀ {K : Act → World → Prop}, K (a.put o.dst v') w' → o.wp P a w K Q := by
    intro K h'
    unfold Oper.wp execOp
    simp only [ho, resolve, invoke, builtin, Sem.run_bind, Sem.run_pure, Result.andThen_ok, List.map_toArray, List.map_cons, List.map_nil, hs, hx, hrun]
    exact h'
  refine hop (hK _ _ ?_)
  exact (h v' w' h2 ⟨h3.os, h3.tape, h3.output, h3.size, fun k hk hn' => h3.block k hk (fun e => hn' (by rw [← e]; simp))⟩ h5)
theorem own_ne {w : World} {e : TypeId} {v : Value} {n : Nat} {xs : List Value} {g : Nat} {t : TypeId} {cs : Array Value} (h : w.ownsRow 0 e 1 v n xs) (hb : Blk w g t cs) (hne : t ≠ e) : g ∉ v.ownBlock.toList := by
  intro hg
  rcases h.2 with ⟨rfl, _⟩ | ⟨g', cap, cur, rfl, _, hh, _⟩
  · simp [Value.ownBlock] at hg
  · simp [Value.ownBlock] at hg
    subst hg
    unfold Blk at hb
    rw [hb] at hh
    injection hh with hh
    injection hh with _ ht
    exact hne ht
theorem own_lt {w : World} {e : TypeId} {v : Value} {n : Nat} {xs : List Value} (h : w.ownsRow 0 e 1 v n xs) : ∀ k, v.ownBlock = some k → k < w.heap.size := fun k hk => (h.lt k hk).2
end Go.QW
namespace Go.Proofs.YtcekbhhpcmhicaaGreatDoor
open Go.RowKit Go.QW Go.QGF

theorem Field.exp0 {w : World} {F : Nat} (h : Field w F) : ∃ ge, w.cell? ⟨F, 0, none⟩ = some (.slice (some ⟨ge, 0, none⟩) 256 256) ∧ Blk w ge 3 (ints .i64 exps) ∧ w.cell? ⟨F, 6, none⟩ = some (.int .i64 0) := by
  obtain ⟨ge, gl, z, o, hf, he, hl, hz, -⟩ := h.ex
  exact ⟨ge, hf.cell 0, he, hf.cell 6⟩
theorem exp_any (F : Nat) (a : Int) (w : World) (hF : Field w F) (ha : 0 ≤ a) (ha' : a < 256) :
    Calls Tryz.prog 225 #[.pointer (some ⟨F, 0, none⟩), .int .i64 a] w fun e w' => e = .returned (.int .i64 (ex a.toNat : Nat)) ∧ w = w' := by
  obtain ⟨a, rfl⟩ := Int.eq_ofNat_of_zero_le ha
  rw [Int.toNat_natCast]
  obtain ⟨ge, h0, he, -⟩ := hF.exp0
  have hc := (he.cell a).trans (exps_get (by omega))
  go_enter Tryz.func225, Tryz.ntmps225
  go_wp2
  go_ret
  exact ⟨rfl, rfl⟩
theorem base_any (F : Nat) (w : World) (hF : Field w F) :
    Calls Tryz.prog 226 #[.pointer (some ⟨F, 0, none⟩)] w fun e w' => e = .returned (.int .i64 0) ∧ w = w' := by
  obtain ⟨ge, h0, he, h6⟩ := hF.exp0
  go_enter Tryz.func226, Tryz.ntmps226
  go_wp2
  go_ret
  exact ⟨rfl, rfl⟩

/-- an encoder that has the first d generators -/
structure Enc (w : World) (F E d : Nat) (v : Value) (ps : List Nat) : Prop where
  blk : Blk w E 315 #[.pointer (some ⟨F, 0, none⟩), v]
  own : w.ownsRow 0 275 1 v d (ps.map fun p : Nat => Value.pointer (some ⟨p, 0, none⟩))

theorem enc_new (F : Nat) (w : World) (_hF : Field w F) :
    Calls Tryz.prog 153 #[.pointer (some ⟨F, 0, none⟩)] w fun e w' => ∃ E v p, e = .returned (.pointer (some ⟨E, 0, none⟩)) ∧ Enc w' F E 1 v [p] ∧ Poly w' F p [1] ∧ Below w.heap.size w w' ∧ (∀ k, v.ownBlock = some k → w.heap.size ≤ k ∧ k < E) ∧ w.heap.size ≤ E := by
  go_enter Tryz.func153, Tryz.ntmps153
  go_wp2_with fail
  refine (poly_new F w.heap.size 0 1 1 [1] _ (Rd.of_blk (Blk.new w 3 (ints .i64 [1]))) rfl (by omega) (by omega) (by omega)).mono ?_
  rintro e w1 ⟨p, rfl, hp, hb⟩
  go_wp2_with fail
  go_ret
  refine ⟨_, _, p, rfl, ⟨by have := Blk.new (w1.alloc (Obj.cells #[Value.pointer (some ⟨p, 0, none⟩)] 275)) 315 #[.pointer (some ⟨F, 0, none⟩), .slice (some ⟨w1.heap.size, 0, none⟩) 1 1]; rwa [World.size_alloc] at this, ?_⟩, hp.below ?_, ?_, ?_, ?_⟩
  · exact (ownsRow_lit1 w1 _ _).alloc _
  · exact ((Below.refl _ _).alloc (Nat.le_refl _) _).alloc (by simp) _
  · have hs := hb.size
    simp only [World.size_alloc] at hs
    exact ((((Below.refl _ _).alloc (Nat.le_refl _) _).trans (hb.mono (by simp))).alloc (by omega) _).alloc (by simp; omega) _
  · intro k hk
    have hs := hb.size
    simp only [World.size_alloc] at hs
    simp [Value.ownBlock] at hk
    subst hk
    simp
    omega
  · have hs := hb.size
    simp only [World.size_alloc] at hs
    simp
    omega

/-- what holds at the head of each round of the generators' making: the last one's pointer, the list, the world -/
def GenI (F E d0 : Nat) (w : World) (own0 : Option Nat) (k : Nat) (t6 t7 : Value) (wr : World) : Prop :=
  ∃ d v ps q, 1 ≤ d ∧ d ≤ d0 + 1 ∧ k = d0 + 1 - d ∧ t7 = .int .i64 d ∧ t6 = .pointer (some ⟨q, 0, none⟩) ∧ Poly wr F q (gen (d - 1)) ∧ Enc wr F E d v ps ∧ ps.length = d ∧ nth ps (d - 1) = q ∧
    Kp (E :: own0.toList) w wr ∧ (∀ b, v.ownBlock = some b → own0 = some b ∨ w.heap.size ≤ b)

set_option maxHeartbeats 2000000 in
set_option maxRecDepth 100000 in
theorem gen_any (F E d0 p0 : Nat) (v0 : Value) (w : World) (hF : Field w F) (he : Enc w F E 1 v0 [p0]) (hp : Poly w F p0 [1]) (hd : 1 ≤ d0) (hd' : d0 ≤ 100) :
    Calls Tryz.prog 190 #[.pointer (some ⟨E, 0, none⟩), .int .i64 d0] w fun e w' => ∃ q, e = .returned (.pointer (some ⟨q, 0, none⟩)) ∧ Poly w' F q (gen d0) ∧ Kp (E :: v0.ownBlock.toList) w w' ∧ w'.cell? ⟨E, 0, none⟩ = some (.pointer (some ⟨F, 0, none⟩)) := by
  obtain ⟨g0, cap0, rfl, hg0, hc0, hm0, hcell0, -, -⟩ := ownsRow_form he.own (by decide)
  have E0 := he.blk.cell 0
  have E1 := he.blk.cell 1
  have hEl := he.blk.lt
  have G0 := hcell0 0 (by decide)
  simp only [List.getElem?_toArray, List.getElem?_cons_zero, List.getElem?_cons_succ, List.map_cons, List.map_nil] at E0 E1 G0
  have hge : decide ((1 : Int) ≤ (d0 : Int)) = true := by simp; omega
  go_enter Tryz.func190, Tryz.ntmps190
  go_wp2_with fail
  go_loopg [6, 7] d0 (fun k t6 t7 wr => GenI F E d0 w (some g0) k t6 t7 wr)
  case atStart => exact ⟨1, _, [p0], p0, by omega, by omega, by omega, rfl, rfl, hp, he, rfl, rfl, Kp.refl _ _, by intro b hb; simp [Value.ownBlock] at hb; simp [hb]⟩
  case round =>
    obtain ⟨d, v, ps, q, h1, h2, rfl, rfl, rfl, hq, hE, hpl, hpq, hk, hv⟩ := hrel
    have e0 := hE.blk.cell 0
    have e1 := hE.blk.cell 1
    have el := hE.blk.lt
    simp only [List.getElem?_toArray, List.getElem?_cons_zero, List.getElem?_cons_succ] at e0 e1
    by_cases hlt : d ≤ d0
    · have hle : decide ((d : Int) ≤ (d0 : Int)) = true := by simp; omega
      have hW : IntKind.i64.wrap ((d : Int) - 1) = (d : Int) - 1 := by rw [show (d : Int) - 1 = ((d - 1 : Nat) : Int) by omega]; exact wrap_nat_i64 _ (by omega)
      have hFr : Field wr F := hF.kp hk (by
        intro b hb t arr hbb
        simp only [Option.toList, List.mem_cons, List.not_mem_nil, or_false] at hb
        rcases hb with rfl | rfl
        · have := hbb.symm.trans he.blk; injection this with this; injection this with _ ht; subst ht; decide
        · obtain ⟨-, h2⟩ := he.own
          rcases h2 with ⟨h2, -⟩ | ⟨g', cap', cur', hv', -, hh, -⟩
          · cases h2
          · injection hv' with hv' _ _; injection hv' with hv'; injection hv' with hv'; subst hv'
            have := hbb.symm.trans hh; injection this with this; injection this with _ ht; subst ht; decide)
      go_wp2_with fail
      obtain ⟨c, hc⟩ : ∃ c : Nat, d = c + 1 := ⟨d - 1, by omega⟩
      have hWc : (d : Int) - 1 = (c : Int) := by omega
      have hd1 : d - 1 = c := by omega
      rw [hd1] at hq hpq
      have hW' : IntKind.i64.wrap ((d : Int) - 1) = (c : Int) := by rw [hWc]; exact wrap_nat_i64 _ (by omega)
      have hW0 : IntKind.i64.wrap (c : Int) = (c : Int) := wrap_nat_i64 c (by omega)
      have hcb : (c : Int) < 256 := by omega
      have hcz : (0 : Int) ≤ (c : Int) := by omega
      have HD := Lib.hid (show d = c + 1 ∧ d ≤ d0 from ⟨hc, hlt⟩)
      clear hW hWc hd1 hc
      go_region_held3 (fun w' => w'.cell? ⟨E, 0, none⟩ = some (.pointer (some ⟨F, 0, none⟩))) (go_keep) (first | (go_at_call 226; refine (base_any F _ ?_).mono ?_; (exact hFr.heap rfl); rintro e w' ⟨rfl, rfl⟩) | (go_at_call 225; refine (exp_any F _ _ ?_ ?_ ?_).mono ?_; (exact hFr.heap rfl); (omega); (omega); rintro e w' ⟨rfl, rfl⟩) | (go_at_call 172; refine (poly_new F _ 0 2 2 [1, ex c] _ ?_ rfl ?_ ?_ ?_).mono ?_; (exact Rd.of_blk (Blk.new _ _ _)); (omega); (omega); (omega); rintro e w' ⟨p2, rfl, hp2, hb2⟩; have hS2 := (hb2.cell (p := ⟨E, 0, none⟩) (by show E < (wr.alloc _).heap.size; rw [World.size_alloc]; exact Nat.lt_succ_of_lt el)).trans (by assumption)))
      have hex : ex c < 256 := ex_lt c
      have hb3 : Below wr.heap.size wr w' := (((Below.refl _ _).drew).alloc (Nat.le_refl _) _).trans (hb2.mono (by show wr.heap.size ≤ (wr.alloc _).heap.size; rw [World.size_alloc]; exact Nat.le_succ _))
      have hs3 := hb3.size
      have hnk : norm [1, ex c] = [1, ex c] := norm_keep [1, ex c] (.inr (by rw [nth_zero]; exact Nat.one_ne_zero)) (Nat.succ_pos _)
      rw [hnk] at hp2
      clear hnk
      have e1' := (hb3.cell (p := ⟨E, 1, none⟩) el).trans e1
      have GS := Lib.hid (gen_spec c)
      clear hb2
      go_wp2_with fail
      refine (prod_any F q p2 (gen c) [1, ex c] _ (hFr.below hb3) (hq.below hb3) hp2 (by rw [GS.out.2.1]; omega) (by simp) (by rw [GS.out.2.1]; have := HD.out; omega) (by simp) GS.out.1.ok (by intro x hx; simp at hx; omega) (by rw [nth_zero, GS.out.2.2.1]; decide) (by simp [nth])).mono ?_
      rintro e w4 ⟨r, rfl, hr, hb4⟩
      have hs4 := hb4.size
      have hb34 := below_trans' hb3 hb4 hs3
      have hown := (ownsRow_kp (S := []) hE.own (Kp.of_below hb34) (by simp))
      have hw4 := hb34.size
      have e1'' := (hb34.cell (p := ⟨E, 1, none⟩) el).trans e1
      have el4 : E < w4.heap.size := by omega
      have HO := Lib.hid hown
      clear hown
      have hE4 := hE.blk.kp (Kp.of_below hb34 : Kp [] wr w4) (by simp)
      have hneE : E ∉ v.ownBlock.toList := own_ne HO.out hE4 (by decide)
      go_wp2_with (first
        | (at_builtin; refine wpList_append1 (.tmp 66) (.tmp 68) (t := 313) Tryz.underlying313 (e := 275) (z := .pointer none) (b := 8) (by kernel_rfl) rfl rfl rfl (by decide) (v := v) (n := d) (xs := ps.map fun p : Nat => Value.pointer (some ⟨p, 0, none⟩)) rfl (HO.out.alloc _) (ad := ⟨w4.heap.size, 0, none⟩) (c := 1) (u := .pointer (some ⟨r, 0, none⟩)) rfl ((Blk.new w4 _ _).cell 0) rfl (by omega) ?_; intro v5 w5 hown5 hk5 hv5; have hE5 := Blk.kp (hE4.alloc (Obj.cells #[Value.pointer (some ⟨r, 0, none⟩)] 275)) hk5 hneE; have e15 := hE5.cell 1; have f15 := hE5.frozen 1; simp only [List.getElem?_toArray, List.getElem?_cons_zero, List.getElem?_cons_succ] at e15; obtain ⟨g5, cap5, hv5e, -⟩ := ownsRow_form hown5 (Nat.succ_pos _); subst hv5e))
      obtain ⟨V5, hV5⟩ : ∃ V5, V5 = Value.slice (some ⟨g5, 0, none⟩) (d + 1) cap5 := ⟨_, rfl⟩
      rw [← hV5] at hown5 hv5
      have hd := HD.out
      have hvE : ∀ g, V5.ownBlock = some g → g ∉ [E] := by
        intro g hg hgE
        simp at hgE
        subst hgE
        rcases hv5 with h | h
        · exact own_ne HO.out hE4 (by decide) (by rw [← h, hg]; simp)
        · rw [hg] at h; injection h with h; rw [World.size_alloc] at h; omega
      have hk6 : Kp [E] w5 (w5.setCell ⟨E, 1, none⟩ V5) := (Kp.refl _ _).setCell (by simp) _
      have hkA : Kp (E :: v.ownBlock.toList) wr (w5.setCell ⟨E, 1, none⟩ V5) :=
        ((((Kp.of_below hb34 : Kp [] wr w4).mono (T := E :: v.ownBlock.toList) (by simp)).alloc _).trans hk5 (by intro i hi _; simp at hi ⊢; exact .inr hi)).trans hk6 (by intro i hi _; simp at hi ⊢; exact .inl hi)
      have hoff : Off w5 [E] [3, 330, 277] := by
        intro b hb t arr hbb
        simp only [List.mem_cons, List.not_mem_nil, or_false] at hb
        subst hb
        have := hbb.symm.trans hE5; injection this with this; injection this with _ ht; subst ht; decide
      have hoff5 : Off (w4.alloc (Obj.cells #[Value.pointer (some ⟨r, 0, none⟩)] 275)) v.ownBlock.toList [3, 330, 277] := by
        intro b hb t arr hbb hmem
        refine own_ne (HO.out.alloc _) hbb ?_ hb
        rintro rfl
        revert hmem; decide
      have hr6 : Poly (w5.setCell ⟨E, 1, none⟩ V5) F r (gen d) := by
        rw [hd.1]
        exact ((hr.below ((Below.refl _ _).alloc (Nat.le_refl _) _)).kp hk5 hoff5).kp hk6 hoff
      subst hV5
      go_roundg (d0 - d)
      case measure => omega
      case rel =>
        refine ⟨d + 1, _, ps ++ [r], r, by omega, by omega, by omega, by go_num, rfl, hr6, ⟨hE5.set_ 1 _, ?_⟩, by simp [hpl], ?_, ?_, ?_⟩
        · rw [List.map_append]; exact ownsRow_kp hown5 hk6 hvE
        · rw [Nat.add_sub_cancel, ← hpl]
          have := nth_append_right (l := ps) (m := [r]) (i := 0)
          rw [Nat.add_zero] at this
          rw [this]; rfl
        · refine hk.trans hkA ?_
          intro i hi hlt
          simp only [List.mem_cons, Option.mem_toList] at hi ⊢
          rcases hi with hi | hi
          · exact .inl hi
          · rcases hv i hi with h | h
            · exact .inr h
            · omega
        · intro b hb
          rcases hv5 with h | h
          · exact hv b (by rw [← h]; exact hb)
          · rw [hb] at h; injection h with h
            have hsz := hk.size
            rw [World.size_alloc] at h
            exact .inr (by omega)
    · have hlf : decide ((d : Int) ≤ (d0 : Int)) = false := by simp; omega
      obtain ⟨g, cap, rfl, hgl, hcn, hcm, hcell, hfr, -⟩ := ownsRow_form hE.own (by omega)
      have hde : d = d0 + 1 := by omega
      subst hde
      rw [Nat.add_sub_cancel] at hq hpq
      have hd2 : d0 < ps.length := by omega
      have c0 : wr.cell? ⟨g, d0, none⟩ = some (.pointer (some ⟨q, 0, none⟩)) := by
        rw [hcell d0 (by omega), List.getElem?_map, List.getElem?_eq_getElem hd2, ← nth_get hd2, hpq]
        rfl
      clear hcell hpq
      go_wp2_with fail
      go_ret
      exact ⟨q, rfl, hq, hk, e0⟩
end Go.Proofs.YtcekbhhpcmhicaaGreatDoor
namespace Go.Proofs.YtcekbhhpcmhicaaGreatDoor
open Go.RowKit Go.QW Go.QGF

theorem off_gen {w : World} {F E : Nat} {v : Value} {d : Nat} {ps : List Nat} (he : Enc w F E d v ps) : Off w (E :: v.ownBlock.toList) [3, 330, 277] := by
  intro b hb t arr hbb hmem
  rcases List.mem_cons.1 hb with rfl | hb
  · have := hbb.symm.trans he.blk; injection this with this; injection this with _ ht; subst ht; revert hmem; decide
  · refine own_ne he.own hbb ?_ hb
    rintro rfl
    revert hmem; decide

theorem monoMul_len {p : List Nat} (hp : p ≠ []) (d c : Nat) : (monoMul p d c).length ≤ p.length + d := by
  have h1 := List.length_pos_iff.2 hp
  unfold monoMul
  split
  · simp; omega
  · have := norm_length_le (p := p.map (gm · c) ++ List.replicate d 0) (by simp [hp])
    simpa using this
theorem splice_end {l : List Nat} {off : Nat} {cs : List Nat} (h : off + cs.length = l.length) : splice l off cs = l.take off ++ cs := by
  unfold splice
  rw [h, List.drop_length, List.append_nil]
theorem V_zero_len {p : List Nat} (h : V p) (h0 : p.headD 0 = 0) : p.length = 1 := h.hd.resolve_right (fun h => h h0)
set_option maxHeartbeats 2000000 in
set_option maxRecDepth 100000 in
theorem enc_any (F E g p0 n ec cap : Nat) (v0 : Value) (data : List Nat) (w : World) (hF : Field w F) (he : Enc w F E 1 v0 [p0]) (hp : Poly w F p0 [1]) (hb : Blk w g 3 (ints .i64 (data ++ List.replicate ec 0)))
    (hn : data.length = n) (ok : Ok data) (h1 : 1 ≤ n) (h2 : n ≤ 3000) (h3 : 1 ≤ ec) (h4 : ec ≤ 100) (hc : n + ec ≤ cap) (_hc2 : cap ≤ 100000) :
    Calls Tryz.prog 154 #[.pointer (some ⟨E, 0, none⟩), .slice (some ⟨g, 0, none⟩) (n + ec) cap, .int .i64 ec] w
      fun e w' => ∃ ecs, e = .returned .nilIface ∧ ecs.length = ec ∧ Ok ecs ∧ (∀ i, i < ec → ev (ex i) (data ++ ecs) = 0) ∧ Blk w' g 3 (ints .i64 (data ++ ecs)) ∧ Kp (g :: E :: v0.ownBlock.toList) w w' := by
  have hgne : g ∉ E :: v0.ownBlock.toList := fun hm => off_gen he g hm _ _ hb (by simp)
  have hglt := hb.lt
  have E0 := he.blk.cell 0
  have hEl := he.blk.lt
  simp only [List.getElem?_toArray, List.getElem?_cons_zero] at E0
  have hle : decide ((ec : Int) ≤ 0) = false := by simp; omega
  have hsub : IntKind.i64.wrap (((n + ec : Nat) : Int) - (ec : Int)) = (n : Int) := by rw [show ((n + ec : Nat) : Int) - (ec : Int) = ((n : Nat) : Int) by omega]; exact wrap_nat_i64 _ (by omega)
  have hsub' : ((n + ec : Nat) : Int) - (ec : Int) = (n : Int) := by omega
  have hle2 : decide ((n : Int) ≤ 0) = false := by simp; omega
  have hmk := make_flat Tryz.underlying138 int_info (by decide) n (n : Int) rfl (by omega)
  go_enter Tryz.func154, Tryz.ntmps154
  go_wp2_with fail
  refine (gen_any F E ec p0 v0 w hF he hp h3 h4).mono ?_
  rintro e w1 ⟨q, rfl, hq, hk1, E1⟩
  have hs1 := hk1.size
  have hF1 := hF.kp hk1 (off_gen he)
  have hb1 := hb.kp hk1 hgne
  obtain ⟨gs1, gs2, gs3, gs4⟩ := gen_spec ec
  have GS := Lib.hid gs1
  have hE1 : E < w1.heap.size := by omega
  go_wp2_with fail
  refine upon_copy_ints Tryz.underlying138 (by kernel_rfl) .i64 3 (List.replicate n 0) data (Blk.new w1 _ _) ?_ ?_ ?_ ?_
  · show data.length = min (n + ec) n
    omega
  · intro j hj
    rw [Nat.zero_add, (hb1.alloc _).cell, ints_get (by simp; omega), nth_append_left hj]
  · simp; omega
  intro w2 hb2 hk2 hs2
  have hsp : splice (List.replicate n 0) 0 data = data := by simp [splice, hn]
  rw [hsp] at hb2
  have hw12 : Below w1.heap.size w1 w2 := below_of_kp ((Below.refl _ _).alloc (Nat.le_refl _) _) hk2 (by simp) (by simp)
  have hs2' := hw12.size
  have E2 := (hw12.cell (p := ⟨E, 0, none⟩) hE1).trans E1
  clear hsp hk2 hs2
  go_wp2_with fail
  refine (poly_new F w1.heap.size 0 n n data w2 (Rd.of_blk hb2) hn.symm (by omega) (Nat.le_refl _) (by omega)).mono ?_
  rintro e w3 ⟨ip, rfl, hip, hbb3⟩
  have hs3 := hbb3.size
  have hF3 := (hF1.below hw12).below hbb3
  have hnv : V (norm data) := norm_V ok
  have hnl : (norm data).length ≤ 3000 := by have := norm_length_le (p := data) (by rintro rfl; simp at hn; omega); omega
  have hnp := hnv.pos
  go_wp2_with fail
  refine (monoMul_any F ip (norm data) _ _ _ hF3 hip hnv.ok hnp (by omega) (by omega) (by omega) (by omega) (by omega)).mono ?_
  rintro e w4 ⟨im, rfl, him, hb4⟩
  rw [Int.toNat_natCast] at him
  have hs4 := hb4.size
  have hF4 := hF3.below hb4
  have hw14 := below_trans' (below_trans' hw12 hbb3 hs2') hb4 (by omega)
  have hq4 := hq.below hw14
  have hml : (monoMul (norm data) ec 1).length ≤ 5000 := by have := monoMul_len hnv.ne ec 1; omega
  go_wp2_with fail
  refine (div_any F im q _ _ _ hF4 him hq4 (monoMul_V _ _) gs1 gs3 (by omega) hml (by omega)).mono ?_
  rintro e w5 ⟨zq, zr, rs, rfl, hzr, hrest, hrl, hb5⟩
  have hs5 := hb5.size
  have hw15 := below_trans' hw14 hb5 (by omega)
  have hrl' : rs.length ≤ ec := by
    rcases hrl with h | h
    · omega
    · have := V_zero_len hrest.1 h
      omega
  have hrp := hrest.1.pos
  obtain ⟨gr, offr, capr, hbr, hrr, hcr, hcr2⟩ := hzr.rd
  have r1 := hbr.cell 1
  simp only [List.getElem?_toArray, List.getElem?_cons_zero, List.getElem?_cons_succ] at r1
  have hb5g := hb1.below hw15 hb1.lt
  have HCODE := Lib.hid (coded ok ec hrest hrl')
  have HRV := Lib.hid hrest.1.ok
  have hsubI : IntKind.i64.wrap ((ec : Int) - (rs.length : Int)) = ((ec - rs.length : Nat) : Int) := by rw [show (ec : Int) - (rs.length : Int) = ((ec - rs.length : Nat) : Int) by omega]; exact wrap_nat_i64 _ (by omega)
  obtain ⟨nz, hnz⟩ : ∃ nz, nz = ec - rs.length := ⟨_, rfl⟩
  rw [← hnz] at hsubI
  have hsubI' : (ec : Int) - (rs.length : Int) = (nz : Int) := by omega
  clear hrest hrl hml hnl
  go_wp2_with (go_at_call 193; go_in)
  go_loopw [17] (fun t wr => ∃ i : Nat, i ≤ nz ∧ t = .int .i64 i ∧ Blk wr g 3 (ints .i64 (data ++ List.replicate ec 0)) ∧ Kp [g] w5 wr) (fun t _ => nz - (intOf t).toNat)
  case atStart => exact ⟨0, by omega, rfl, hb5g, Kp.refl _ _⟩
  case round =>
    obtain ⟨i, hi, rfl, hB, hk⟩ := hrel
    have hsz := hk.size
    by_cases hlt : i < nz
    · have hset : (data ++ List.replicate ec 0).set (n + i) 0 = data ++ List.replicate ec 0 := by
        apply ext_nth (by simp)
        intro j hj
        rw [nth_set (by simp; omega)]
        split
        · subst_vars
          rw [nth_append_right, nth_replicate, ite_self]
        · rfl
      have HS := Lib.hid hset
      clear hset
      have hcell := hB.cell (n + i)
      rw [ints_get (by simp; omega)] at hcell
      have hfz := hB.frozen (n + i)
      go_wp2
      go_roundw
      case rel =>
        refine ⟨i + 1, by omega, by go_num, ?_, hk.setCell (by simp) _⟩
        have := hB.set_ (n + i) (.int .i64 ((0 : Nat) : Int))
        rw [ints_set, HS.out] at this
        exact this
      case measure => simp [intOf]; omega
    · have hie : i = nz := by omega
      subst hie
      have hrr' : Rd wr gr offr rs := hrr.keep hsz (by
        by_cases h : gr = g
        · subst h; exact hB.trans hb5g.symm
        · exact hk.block gr hrr.1 (by simpa using h))
      have hzl : i + rs.length = ec := by omega
      go_wp2
      refine upon_copy_ints Tryz.underlying138 (by kernel_rfl) .i64 3 (data ++ List.replicate ec 0) rs hB ?_ ?_ ?_ ?_
      · show rs.length = min _ _
        omega
      · intro j hj
        exact hrr'.at_ hj
      · simp; omega
      intro w6 hb6 hk6 hs6
      go_wp2
      go_ret
      have hsp : splice (data ++ List.replicate ec 0) (n + (ec - rs.length)) rs = data ++ (List.replicate (ec - rs.length) 0 ++ rs) := by
        rw [splice_end (by simp; omega)]
        rw [← hn, List.take_append, List.take_of_length_le (by omega), List.take_replicate, Nat.add_sub_cancel_left, Nat.min_eq_left (by omega), List.append_assoc]
      rw [hsp] at hb6
      refine ⟨List.replicate (ec - rs.length) 0 ++ rs, rfl, by simp; omega, Ok.append.2 ⟨.replicate _, HRV.out⟩, HCODE.out, hb6, ?_⟩
      refine (((hk1.mono (T := g :: E :: v0.ownBlock.toList) (fun k hk _ => List.mem_cons_of_mem _ hk)).trans (Kp.of_below hw15 : Kp [] w1 w5) (by simp)).trans hk (by simp)).trans hk6 (by simp)
end Go.Proofs.YtcekbhhpcmhicaaGreatDoor
