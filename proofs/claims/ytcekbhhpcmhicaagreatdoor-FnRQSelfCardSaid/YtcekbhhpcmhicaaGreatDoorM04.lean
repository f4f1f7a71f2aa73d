/- The field of QR codes in memory; its multiplication; A polynomial is made: NewGenericGFPoly. -/
import Derived.Test.YtcekbhhpcmhicaaGreatDoorM02
import Derived.Test.YtcekbhhpcmhicaaGreatDoorM03
import Derived.Test.YtcekbhhpcmhicaaGreatDoorProg
namespace Go.Proofs.YtcekbhhpcmhicaaGreatDoor
open Go.RowKit Go.QW Go.QGF

/-- a slice that reads as numbers -/
def Rd (w : World) (g off : Nat) (cs : List Nat) : Prop := g < w.heap.size ∧ (∀ i, i < cs.length → w.cell? ⟨g, off + i, none⟩ = some (.int .i64 (nth cs i : Nat))) ∧ ∃ arr, Blk w g 3 arr
/-- a polynomial in memory -/
structure Poly (w : World) (F p : Nat) (cs : List Nat) : Prop where
  mk' ::
  ex : ∃ g off cap, Blk w p 330 #[.pointer (some ⟨F, 0, none⟩), .slice (some ⟨g, off, none⟩) cs.length cap] ∧ Rd w g off cs ∧ cs.length ≤ cap ∧ cap ≤ 100000

def exps : List Nat := (List.range 256).map ex
def logs : List Nat := lgT 255
structure Field (w : World) (F : Nat) : Prop where
  mk' ::
  ex : ∃ ge gl z o, Blk w F 277 #[.slice (some ⟨ge, 0, none⟩) 256 256, .slice (some ⟨gl, 0, none⟩) 256 256, .pointer (some ⟨z, 0, none⟩), .pointer (some ⟨o, 0, none⟩), .int .i64 256, .int .i64 285, .int .i64 0] ∧
    Blk w ge 3 (ints .i64 exps) ∧ Blk w gl 3 (ints .i64 logs) ∧ Poly w F z [0] ∧ Poly w F o [1]

theorem exps_get {i : Nat} (h : i < 256) : (ints .i64 exps)[i]? = some (.int .i64 (ex i : Nat)) := by
  rw [ints_get (by simpa [exps] using h)]; simp [exps, nth, List.getD_eq_getElem?_getD, h]
theorem logs_length : logs.length = 256 := by decide +kernel
theorem logs_get {i : Nat} (h : i < 256) : (ints .i64 logs)[i]? = some (.int .i64 (lg i : Nat)) := by
  rw [ints_get (by rw [logs_length]; exact h)]; rfl

theorem mul_any (F : Nat) (a b : Int) (w : World) (hF : Field w F) (ha : 0 ≤ a) (ha' : a < 256) (hb : 0 ≤ b) (hb' : b < 256) :
    Calls Tryz.prog 229 #[.pointer (some ⟨F, 0, none⟩), .int .i64 a, .int .i64 b] w
      fun e w' => e = .returned (.int .i64 (gm a.toNat b.toNat : Nat)) ∧ ∃ n, w' = w.drewN n := by
  obtain ⟨a, rfl⟩ := Int.eq_ofNat_of_zero_le ha
  obtain ⟨b, rfl⟩ := Int.eq_ofNat_of_zero_le hb
  rw [Int.toNat_natCast, Int.toNat_natCast]
  obtain ⟨ge, gl, z, o, hf, he, hl, -, -⟩ := hF.ex
  have hf0 := hf.cell 0
  have hf1 := hf.cell 1
  have hf4 := hf.cell 4
  simp only [List.getElem?_toArray, List.getElem?_cons_zero, List.getElem?_cons_succ] at hf0 hf1 hf4
  have hla := (hl.cell a).trans (logs_get (by omega))
  have hlb := (hl.cell b).trans (logs_get (by omega))
  have hk := (he.cell ((lg a + lg b) % 255)).trans (exps_get (by omega))
  have h1 := lg_lt (a := a) (by omega)
  have h2 := lg_lt (a := b) (by omega)
  clear he hl hf hF
  by_cases a0 : a = 0
  · subst a0
    go_enter Tryz.func229, Tryz.ntmps229
    go_wp2
    go_ret
    exact ⟨by simp [zero_gm], 0, rfl⟩
  by_cases b0 : b = 0
  · subst b0
    go_enter Tryz.func229, Tryz.ntmps229
    go_wp2
    go_ret
    exact ⟨by simp [gm_zero], 0, rfl⟩
  have hg : gm a b = ex ((lg a + lg b) % 255) := by unfold gm; rw [if_neg (by omega)]
  have ha0 : ((a : Int) == 0) = false := by simp; omega
  have hb0 : ((b : Int) == 0) = false := by simp; omega
  have ea : (a : Int) < (256 : Int) := by omega
  have eb : (b : Int) < (256 : Int) := by omega
  have HG := Lib.hid hg
  clear hg
  go_enter Tryz.func229, Tryz.ntmps229
  go_wp2
  go_quiet (fail)
  go_wp2
  go_ret
  exact ⟨by rw [HG.out]; rfl, _, rfl⟩
end Go.Proofs.YtcekbhhpcmhicaaGreatDoor
namespace Go.Proofs.YtcekbhhpcmhicaaGreatDoor
open Go.RowKit Go.QW Go.QGF

theorem Rd.at_ {w : World} {g off : Nat} {cs : List Nat} (h : Rd w g off cs) {i : Nat} (hi : i < cs.length) : w.cell? ⟨g, off + i, none⟩ = some (.int .i64 (nth cs i : Nat)) := h.2.1 i hi
theorem Rd.keep {w w' : World} {g off : Nat} {cs : List Nat} (h : Rd w g off cs) (hs : w.heap.size ≤ w'.heap.size) (hk : w'.heap[g]? = w.heap[g]?) : Rd w' g off cs := by
  obtain ⟨h1, h2, arr, h3⟩ := h
  exact ⟨Nat.lt_of_lt_of_le h1 hs, fun i hi => (World.cell?_of_block (w := w) (a := ⟨g, off + i, none⟩) hk).trans (h2 i hi), arr, by unfold Blk; rw [hk]; exact h3⟩
theorem Rd.below {w w' : World} {g off : Nat} {cs : List Nat} (h : Rd w g off cs) (hb : Below w.heap.size w w') : Rd w' g off cs := h.keep hb.size (hb.block g h.1)
theorem Poly.below {w w' : World} {F p : Nat} {cs : List Nat} (h : Poly w F p cs) (hb : Below w.heap.size w w') : Poly w' F p cs := by
  obtain ⟨g, off, cap, h1, h2, h3⟩ := h.ex
  exact ⟨g, off, cap, h1.below hb h1.lt, h2.below hb, h3⟩
theorem Poly.rd {w : World} {F p : Nat} {cs : List Nat} (h : Poly w F p cs) : ∃ g off cap, Blk w p 330 #[.pointer (some ⟨F, 0, none⟩), .slice (some ⟨g, off, none⟩) cs.length cap] ∧ Rd w g off cs ∧ cs.length ≤ cap ∧ cap ≤ 100000 := h.ex
/-- no block of S is of one of these types -/
def Off (w : World) (S ts : List Nat) : Prop := ∀ k, k ∈ S → ∀ t arr, Blk w k t arr → t ∉ ts
theorem Rd.kp {w w' : World} {S : List Nat} {g off : Nat} {cs : List Nat} (h : Rd w g off cs) (hk : Kp S w w') (ho : Off w S [3, 330, 277]) : Rd w' g off cs := by
  obtain ⟨h1, h2, arr, h3⟩ := h
  exact Rd.keep ⟨h1, h2, arr, h3⟩ hk.size (hk.block g h1 fun hS => ho g hS _ _ h3 (by simp))
theorem Poly.kp {w w' : World} {S : List Nat} {F p : Nat} {cs : List Nat} (h : Poly w F p cs) (hk : Kp S w w') (ho : Off w S [3, 330, 277]) : Poly w' F p cs := by
  obtain ⟨g, off, cap, h1, h2, h3⟩ := h.ex
  exact ⟨g, off, cap, h1.kp hk (fun hS => ho p hS _ _ h1 (by simp)), h2.kp hk ho, h3⟩
theorem Field.kp {w w' : World} {S : List Nat} {F : Nat} (h : Field w F) (hk : Kp S w w') (ho : Off w S [3, 330, 277]) : Field w' F := by
  obtain ⟨ge, gl, z, o, h1, h2, h3, h4, h5⟩ := h.ex
  exact ⟨ge, gl, z, o, h1.kp hk (fun hS => ho F hS _ _ h1 (by simp)), h2.kp hk (fun hS => ho ge hS _ _ h2 (by simp)), h3.kp hk (fun hS => ho gl hS _ _ h3 (by simp)), h4.kp hk ho, h5.kp hk ho⟩
theorem Field.below {w w' : World} {F : Nat} (h : Field w F) (hb : Below w.heap.size w w') : Field w' F := by
  obtain ⟨ge, gl, z, o, h1, h2, h3, h4, h5⟩ := h.ex
  exact ⟨ge, gl, z, o, h1.below hb h1.lt, h2.below hb h2.lt, h3.below hb h3.lt, h4.below hb, h5.below hb⟩
theorem Rd.drop {w : World} {g off : Nat} {cs : List Nat} (h : Rd w g off cs) (k : Nat) : Rd w g (off + k) (cs.drop k) :=
  ⟨h.1, fun i hi => by rw [nth_drop, Nat.add_assoc]; exact h.2.1 (k + i) (by rw [List.length_drop] at hi; omega), h.2.2⟩
theorem Rd.of_blk {w : World} {g : Nat} {cs : List Nat} (h : Blk w g 3 (ints .i64 cs)) : Rd w g 0 cs :=
  ⟨h.lt, fun i hi => by rw [h.cell, Nat.zero_add]; exact ints_get hi, _, h⟩
theorem Poly.mk {w : World} {F p g off cap : Nat} {cs : List Nat} {n : Nat} (hn : n = cs.length) (hb : Blk w p 330 #[.pointer (some ⟨F, 0, none⟩), .slice (some ⟨g, off, none⟩) n cap]) (hr : Rd w g off cs) (hc : cs.length ≤ cap) (hm : cap ≤ 100000) : Poly w F p cs := by
  subst hn; exact ⟨g, off, cap, hb, hr, hc, hm⟩
theorem Poly.heap {w w' : World} {F p : Nat} {cs : List Nat} (h : Poly w F p cs) (e : w'.heap = w.heap) : Poly w' F p cs := by
  obtain ⟨g, off, cap, h1, h2, h3⟩ := h.ex
  refine ⟨g, off, cap, ?_, h2.keep (by rw [e]; exact Nat.le_refl _) (by rw [e]), h3⟩
  unfold Blk; rw [e]; exact h1
theorem Field.heap {w w' : World} {F : Nat} (h : Field w F) (e : w'.heap = w.heap) : Field w' F := by
  obtain ⟨ge, gl, z, o, h1, h2, h3, h4, h5⟩ := h.ex
  refine ⟨ge, gl, z, o, ?_, ?_, ?_, h4.heap e, h5.heap e⟩ <;> unfold Blk <;> rw [e] <;> assumption
theorem dropWhile_len (cs : List Nat) (k : Nat) (hk : k ≤ cs.length) (h0 : ∀ j, j < k → nth cs j = 0) (h1 : k = cs.length ∨ nth cs k ≠ 0) : cs.dropWhile (· == 0) = cs.drop k := by
  induction cs generalizing k with
  | nil => simp
  | cons c cs ih =>
    cases k with
    | zero =>
      rcases h1 with h1 | h1
      · simp at h1
      · simp only [nth, List.getD_cons_zero] at h1
        have : (c == 0) = false := by simpa using h1
        simp [this]
    | succ k =>
      have hc := h0 0 (by omega)
      simp only [nth, List.getD_cons_zero] at hc
      subst hc
      simp only [List.dropWhile_cons, beq_self_eq_true, if_true, List.drop_succ_cons]
      refine ih k (by simpa using hk) (fun j hj => ?_) ?_
      · have := h0 (j + 1) (by omega)
        simpa [nth] using this
      · rcases h1 with h1 | h1
        · exact .inl (by simpa using h1)
        · exact .inr (by simpa [nth] using h1)
theorem norm_drop (cs : List Nat) (k : Nat) (hk : k < cs.length) (h0 : ∀ j, j < k → nth cs j = 0) (h1 : nth cs k ≠ 0) : norm cs = cs.drop k := by
  unfold norm
  rw [dropWhile_len cs k (by omega) h0 (.inr h1)]
  cases h : cs.drop k with
  | nil => rw [List.drop_eq_nil_iff] at h; omega
  | cons => rfl
theorem norm_all (cs : List Nat) (h0 : ∀ j, j < cs.length → nth cs j = 0) : norm cs = [0] := by
  unfold norm
  rw [dropWhile_len cs cs.length (by omega) h0 (.inl rfl), List.drop_length]
theorem norm_keep (cs : List Nat) (h : cs.length = 1 ∨ nth cs 0 ≠ 0) (hne : 0 < cs.length) : norm cs = cs := by
  by_cases h0 : nth cs 0 = 0
  · have hl := h.resolve_right (fun h => h h0)
    match cs, hl with
    | [c], _ => simp [nth] at h0; subst h0; rfl
  · have := norm_drop cs 0 hne (by intro j hj; omega) h0
    simpa using this

theorem poly_new' (F g off cap : Nat) (cs : List Nat) (w : World) (hr : Rd w g off cs) (hne : 0 < cs.length) (hcap : cs.length ≤ cap) (hmax : cap ≤ 100000) :
    Calls Tryz.prog 172 #[.pointer (some ⟨F, 0, none⟩), .slice (some ⟨g, off, none⟩) cs.length cap] w
      fun e w' => ∃ p, e = .returned (.tuple #[.pointer (some ⟨p, 0, none⟩), .nilIface]) ∧ Poly w' F p (norm cs) ∧ Below w.heap.size w w' := by
  have hgs := hr.1
  have h0 := hr.at_ hne
  rw [Nat.add_zero] at h0
  have hz : ((cs.length : Int) == 0) = false := by
    rw [beq_eq_false_iff_ne]; omega
  by_cases hk : cs.length = 1 ∨ nth cs 0 ≠ 0
  · have hg : ((decide ((1 : Int) < (cs.length : Int))) = false) ∨ ((decide ((1 : Int) < (cs.length : Int))) = true ∧ (((nth cs 0 : Nat) : Int) == 0) = false) := by
      by_cases h1 : cs.length = 1
      · left; simp [h1]
      · right; have h2 := hk.resolve_left h1; have h3 : 1 < cs.length := by omega
        refine ⟨by simp; omega, by simpa using h2⟩
    have hn : norm cs = cs := norm_keep cs hk hne
    have HN := Lib.hid hn
    clear hn hk
    go_enter Tryz.func172, Tryz.ntmps172
    rcases hg with hg | ⟨hg, hg2⟩
    all_goals go_wp2
    all_goals go_ret2
    all_goals refine ⟨_, rfl, ?_, (Below.refl _ _).alloc (Nat.le_refl _) _⟩
    all_goals rw [HN.out]
    all_goals exact Poly.mk rfl (Blk.new _ _ _) (hr.below ((Below.refl _ _).alloc (Nat.le_refl _) _)) hcap hmax
  · have h1 : 1 < cs.length := by omega
    have h2 : nth cs 0 = 0 := by omega
    have hg : decide ((1 : Int) < (cs.length : Int)) = true := by simp; omega
    have hg2 : (((nth cs 0 : Nat) : Int) == 0) = true := by simp [h2]
    have HH := Lib.hid h2
    clear hk h2
    go_enter Tryz.func172, Tryz.ntmps172
    go_wp2
    go_loop [8] (fun t => ∃ k : Nat, 1 ≤ k ∧ k ≤ cs.length ∧ t = .int .i64 k ∧ ∀ j, j < k → nth cs j = 0) (fun t => cs.length - (intOf t).toNat)
    case atStart => exact ⟨1, by omega, by omega, rfl, fun j hj => by rw [show j = 0 by omega]; exact HH.out⟩
    case round =>
      obtain ⟨k, hk1, hk2, rfl, hall⟩ := hrel
      have HA := Lib.hid hall
      clear hall
      by_cases hlt : k < cs.length
      · have hc := hr.at_ hlt
        by_cases hz2 : nth cs k = 0
        · have hq : (((nth cs k : Nat) : Int) == 0) = true := by simp [hz2]
          have HZ := Lib.hid hz2
          clear hz2
          go_wp2
          go_round
          case rel => exact ⟨k + 1, by omega, by omega, by go_num, fun j hj => by
            by_cases e : j = k
            · subst e; exact HZ.out
            · exact HA.out j (by omega)⟩
          case measure => simp [intOf]; omega
        · have hq : (((nth cs k : Nat) : Int) == 0) = false := by simpa using hz2
          have hke : ((k : Int) == (cs.length : Int)) = false := by rw [beq_eq_false_iff_ne]; omega
          have hd := norm_drop cs k hlt HA.out hz2
          have HD := Lib.hid hd
          clear hd hz2
          go_wp2
          go_ret2
          refine ⟨_, rfl, ?_, (Below.refl _ _).alloc (Nat.le_refl _) _⟩
          rw [HD.out]
          exact Poly.mk (by simp) (Blk.new _ _ _) ((hr.below ((Below.refl _ _).alloc (Nat.le_refl _) _)).drop k) (by rw [List.length_drop]; omega) (by omega)
      · have hke : k = cs.length := by omega
        subst hke
        have hd := norm_all cs HA.out
        have HD := Lib.hid hd
        clear hd
        go_wp2
        go_ret2
        refine ⟨_, rfl, ?_, ((Below.refl _ _).alloc (Nat.le_refl _) _).alloc (by simp) _⟩
        rw [HD.out]
        exact Poly.mk rfl ((Blk.new _ _ _).alloc _) (Rd.of_blk (cs := [0]) (by have := Blk.new (w.alloc (Obj.cells #[.pointer (some ⟨F, 0, none⟩), .slice (some ⟨w.heap.size + 1, 0, none⟩) 1 1] 330)) 3 #[.int .i64 0]; rwa [World.size_alloc] at this)) (by simp) (by omega)
theorem poly_new (F g off cap n : Nat) (cs : List Nat) (w : World) (hr : Rd w g off cs) (hn : n = cs.length) (hne : 0 < n) (hcap : n ≤ cap) (hmax : cap ≤ 100000) :
    Calls Tryz.prog 172 #[.pointer (some ⟨F, 0, none⟩), .slice (some ⟨g, off, none⟩) n cap] w
      fun e w' => ∃ p, e = .returned (.tuple #[.pointer (some ⟨p, 0, none⟩), .nilIface]) ∧ Poly w' F p (norm cs) ∧ Below w.heap.size w w' := by
  subst hn; exact poly_new' F g off cap cs w hr hne hcap hmax
end Go.Proofs.YtcekbhhpcmhicaaGreatDoor
