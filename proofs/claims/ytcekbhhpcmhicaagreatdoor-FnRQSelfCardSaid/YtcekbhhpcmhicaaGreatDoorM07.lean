/- The field is made: NewGenericGF, the closure GenericGF_QR_CODE_FIELD_256; generateECBytes: a block's check bytes; BitArray: a list of bits in words of 32; BitArray: Get, AppendBits, AppendBitArray, NewEmptyBitArray, sizes. -/
import Derived.Test.YtcekbhhpcmhicaaGreatDoorM05
import Derived.Test.YtcekbhhpcmhicaaGreatDoorM06
namespace Go.Proofs.YtcekbhhpcmhicaaGreatDoor
open Go.RowKit Go.QW Go.QGF

theorem lgT_succ (k : Nat) : lgT (k + 1) = (lgT k).set (ex k) k := by
  unfold lgT
  rw [List.range_succ, List.foldl_append]
  rfl
theorem lgT_length (k : Nat) : (lgT k).length = 256 := by
  induction k with
  | zero => exact List.length_replicate
  | succ k ih => rw [lgT_succ, List.length_set, ih]
theorem exps_tab : tab 256 (fun j => if j < 256 then ex j else 0) = exps := by
  unfold tab exps
  apply List.map_congr_left
  intro j hj
  rw [if_pos (by simpa using hj)]
theorem Poly.kpP {w w' : World} {S : List Nat} {F p : Nat} {cs : List Nat} (h : Poly w F p cs) (hk : Kp S w w') (ho : Off w S [3, 330]) : Poly w' F p cs := by
  obtain ⟨g, off, cap, h1, h2, h3⟩ := h.ex
  obtain ⟨r1, r2, arr, r3⟩ := h2
  exact ⟨g, off, cap, h1.kp hk (fun hS => ho p hS _ _ h1 (by simp)), Rd.keep ⟨r1, r2, arr, r3⟩ hk.size (hk.block g r1 fun hS => ho g hS _ _ r3 (by simp)), h3⟩
set_option maxHeartbeats 2000000 in
set_option maxRecDepth 100000 in
theorem field_any' (n : Nat) (hn : n = 256) (w : World) :
    Calls Tryz.prog 130 #[.int .i64 285, .int .i64 n, .int .i64 0] w
      fun e w' => ∃ F, e = .returned (.pointer (some ⟨F, 0, none⟩)) ∧ Field w' F ∧ Below w.heap.size w w' ∧ w.heap.size ≤ F := by
  have hmk := make_flat Tryz.underlying138 int_info (by decide) n (n : Int) rfl (by omega)
  have HN := Lib.hid hn
  have hnl : n ≤ 256 := by omega
  have hnl' : 256 ≤ n := by omega
  clear hn
  go_enter Tryz.func130, Tryz.ntmps130
  go_wp2_with fail
  obtain ⟨w0, hw0⟩ : ∃ w0, w0 = ((w.alloc (Obj.cells #[Value.slice none 0 0, Value.slice none 0 0, Value.pointer none, Value.pointer none, Value.int IntKind.i64 n, Value.int IntKind.i64 285, Value.int IntKind.i64 0] 277)).alloc (Obj.cells (ints IntKind.i64 (List.replicate n 0)) 3)).alloc (Obj.cells (ints IntKind.i64 (List.replicate n 0)) 3) := ⟨_, rfl⟩
  have hT : Blk w0 w.heap.size 277 #[Value.slice none 0 0, Value.slice none 0 0, Value.pointer none, Value.pointer none, Value.int IntKind.i64 n, Value.int IntKind.i64 285, Value.int IntKind.i64 0] := by
    rw [hw0]; exact ((Blk.new _ _ _).alloc _).alloc _
  have hA : Blk w0 (w.heap.size + 1) 3 (ints IntKind.i64 (List.replicate n 0)) := by
    have := (Blk.new (w.alloc (Obj.cells #[Value.slice none 0 0, Value.slice none 0 0, Value.pointer none, Value.pointer none, Value.int IntKind.i64 n, Value.int IntKind.i64 285, Value.int IntKind.i64 0] 277)) 3 (ints IntKind.i64 (List.replicate n 0))).alloc (Obj.cells (ints IntKind.i64 (List.replicate n 0)) 3)
    rw [World.size_alloc] at this; rw [hw0]; exact this
  have hB : Blk w0 (w.heap.size + 1 + 1) 3 (ints IntKind.i64 (List.replicate n 0)) := by
    have := (Blk.new ((w.alloc (Obj.cells #[Value.slice none 0 0, Value.slice none 0 0, Value.pointer none, Value.pointer none, Value.int IntKind.i64 n, Value.int IntKind.i64 285, Value.int IntKind.i64 0] 277)).alloc (Obj.cells (ints IntKind.i64 (List.replicate n 0)) 3)) 3 (ints IntKind.i64 (List.replicate n 0)))
    rw [World.size_alloc, World.size_alloc] at this; rw [hw0]; exact this
  have hwB : Below w.heap.size w w0 := by
    rw [hw0]; exact (((Below.refl _ _).alloc (Nat.le_refl _) _).alloc (by simp) _).alloc (by simp; omega) _
  rw [← hw0]
  clear hw0
  have hs0 := hB.lt
  have ht0 : tab n (fun j => if j < 0 then ex j else 0) = List.replicate n 0 := by rw [← tab_zero]; rfl
  go_loopw [10, 11] (fun t10 t11 wr => ∃ i : Nat, i ≤ n ∧ t11 = .int .i64 i ∧ t10 = .int .i64 (ex i : Nat) ∧ Blk wr (w.heap.size + 1) 3 (ints .i64 (tab n fun j => if j < i then ex j else 0)) ∧ Kp [w.heap.size + 1] w0 wr) (fun _ t _ => n - (intOf t).toNat)
  case atStart => exact ⟨0, by omega, rfl, rfl, by rw [ht0]; exact hA, Kp.refl _ _⟩
  case round =>
    obtain ⟨i, hi, rfl, rfl, hb, hk⟩ := hrel
    by_cases hlt : i < n
    · have hc := hb.cell (i)
      rw [ints_get (by rw [tab_length]; exact hlt), nth_tab hlt] at hc
      have hfz := hb.frozen i
      have hx := ex_lt i
      by_cases h128 : n ≤ ex i * 2
      · have hxor : bits .xor .i64 (((ex i : Nat) : Int) * 2) 285 = ((ex i * 2 ^^^ 285 : Nat) : Int) := by
          have := i64_xor (ex i * 2) 285 (by omega) (by omega)
          rw [Int.natCast_mul] at this; exact this
        have hx2 : ex i * 2 ^^^ 285 < 512 := Nat.xor_lt_two_pow (n := 9) (by omega) (by omega)
        have hand : bits .and .i64 ((ex i * 2 ^^^ 285 : Nat) : Int) 255 = (((ex i * 2 ^^^ 285) &&& 255 : Nat) : Int) := i64_and (ex i * 2 ^^^ 285) 255 (by omega) (by omega)
        have hx1 : ex (i + 1) = (ex i * 2 ^^^ 285) &&& 255 := by show xt (ex i) = _; unfold xt; rw [if_pos (by omega)]
        rw [← hx1] at hand
        have hn1 : IntKind.i64.wrap ((n : Int) - 1) = 255 := by rw [show (n : Int) - 1 = ((255 : Nat) : Int) by omega]; exact wrap_nat_i64 _ (by omega)
        have hn2 : (n : Int) - 1 = 255 := by omega
        have hdec : decide ((n : Int) ≤ ((ex i : Nat) : Int) * 2) = true := by simp; omega
        clear hx1
        go_wp2
        go_roundw
        case rel =>
          refine ⟨i + 1, by omega, by go_num, rfl, ?_, hk.setCell (by simp) _⟩
          have := hb.set_ i (.int .i64 ((ex i : Nat) : Int))
          rw [ints_set, tab_set] at this
          rw [tab_congr (g := fun j => if j = i then ex i else if j < i then ex j else 0) (fun j _ => by
            by_cases h1 : j = i
            · subst h1; simp
            · rw [if_neg h1]; by_cases h2 : j < i
              · rw [if_pos h2, if_pos (by omega)]
              · rw [if_neg h2, if_neg (by omega)])]
          exact this
        case measure => simp [intOf]; omega
      · have hx1 : ex (i + 1) = ex i * 2 := by show xt (ex i) = _; unfold xt; rw [if_neg (by omega)]
        have HX := Lib.hid hx1
        have hdec : decide ((n : Int) ≤ ((ex i : Nat) : Int) * 2) = false := by simp; omega
        clear hx1
        go_wp2
        go_roundw
        case rel =>
          refine ⟨i + 1, by omega, by go_num, by rw [HX.out, Int.natCast_mul]; rfl, ?_, hk.setCell (by simp) _⟩
          have := hb.set_ i (.int .i64 ((ex i : Nat) : Int))
          rw [ints_set, tab_set] at this
          rw [tab_congr (g := fun j => if j = i then ex i else if j < i then ex j else 0) (fun j _ => by
            by_cases h1 : j = i
            · subst h1; simp
            · rw [if_neg h1]; by_cases h2 : j < i
              · rw [if_pos h2, if_pos (by omega)]
              · rw [if_neg h2, if_neg (by omega)])]
          exact this
        case measure => simp [intOf]; omega
    · have hie : i = n := by omega
      subst hie
      have hbE : Blk wr (w.heap.size + 1) 3 (ints .i64 exps) := by
        rw [← exps_tab]
        have h := HN.out
        subst h
        exact hb
      have hk0 := hk
      have hBr := hB.kp hk (by simp)
      have hTr := hT.kp hk (by simp)
      have hwr : Below w.heap.size w wr := below_of_kp hwB hk (by omega) (by simp)
      have hlg0 : List.replicate i 0 = lgT 0 := by rw [HN.out]; rfl
      rw [hlg0] at hBr
      have hir : i ≤ 256 := hnl
      clear hb hk hA hB hT hwB ht0 hmk hk0 hlg0 hi hlt
      have hn1 : IntKind.i64.wrap ((i : Int) - 1) = 255 := by rw [show (i : Int) - 1 = ((255 : Nat) : Int) by omega]; exact wrap_nat_i64 _ (by omega)
      have hn2 : (i : Int) - 1 = 255 := by omega
      go_wp2
      obtain ⟨wo, rfl⟩ : ∃ wo : World, wo = wr := ⟨_, rfl⟩
      have hso := hwr.size
      have hAlt := hbE.lt
      have hBlt := hBr.lt
      go_loopw [12] (fun t wr => ∃ k : Nat, k ≤ 255 ∧ t = .int .i64 k ∧ Blk wr (w.heap.size + 1 + 1) 3 (ints .i64 (lgT k)) ∧ Kp [w.heap.size + 1 + 1] wo wr) (fun t _ => 255 - (intOf t).toNat)
      case atStart => exact ⟨0, by omega, rfl, hBr, Kp.refl _ _⟩
      case round =>
        obtain ⟨k, hk255, rfl, hb, hk⟩ := hrel
        have hsz := hk.size
        have hE := hbE.kp hk (by simp)
        by_cases hlt : k < 255
        · have hx := ex_lt k
          have hc := (hE.cell k).trans (exps_get (by omega))
          have hd := hb.cell (ex k)
          rw [ints_get (by rw [lgT_length]; exact hx)] at hd
          have hfz := hb.frozen (ex k)
          have hdec : decide ((k : Int) < (i : Int) - 1) = true := by simp; omega
          go_wp2
          go_roundw
          case rel =>
            refine ⟨k + 1, by omega, by go_num, ?_, hk.setCell (by simp) _⟩
            have := hb.set_ (ex k) (.int .i64 ((k : Nat) : Int))
            rw [ints_set, ← lgT_succ] at this
            exact this
          case measure => simp [intOf]; omega
        · have hke : k = 255 := by omega
          subst hke
          have hT := hTr.kp hk (by simp; omega)
          have hwk : Below w.heap.size w wr := below_of_kp hwr hk (by omega) (by simp; omega)
          have hdec : decide ((255 : Int) < (i : Int) - 1) = false := by simp; omega
          have e0 := hT.cell 0
          have e1 := hT.cell 1
          have f0 := hT.frozen 0
          have f1 := hT.frozen 1
          simp only [List.getElem?_toArray, List.getElem?_cons_zero, List.getElem?_cons_succ] at e0 e1
          go_wp2_with fail
          have hT1 := (hT.set_ 0 (.slice (some ⟨w.heap.size + 1, 0, none⟩) i i)).set_ 1 (.slice (some ⟨w.heap.size + 1 + 1, 0, none⟩) i i)
          have hE1 := (hE.far (p := ⟨w.heap.size, 0, none⟩) (by simp) (.slice (some ⟨w.heap.size + 1, 0, none⟩) i i)).far (p := ⟨w.heap.size, 1, none⟩) (by simp) (.slice (some ⟨w.heap.size + 1 + 1, 0, none⟩) i i)
          have hb1 := (hb.far (p := ⟨w.heap.size, 0, none⟩) (by simp; omega) (.slice (some ⟨w.heap.size + 1, 0, none⟩) i i)).far (p := ⟨w.heap.size, 1, none⟩) (by simp; omega) (.slice (some ⟨w.heap.size + 1 + 1, 0, none⟩) i i)
          have hw1 := (hwk.setCell (p := ⟨w.heap.size, 0, none⟩) (Nat.le_refl _) (.slice (some ⟨w.heap.size + 1, 0, none⟩) i i)).setCell (p := ⟨w.heap.size, 1, none⟩) (Nat.le_refl _) (.slice (some ⟨w.heap.size + 1 + 1, 0, none⟩) i i)
          obtain ⟨x1, hx1⟩ : ∃ x1, x1 = (wr.setCell ⟨w.heap.size, 0, none⟩ (.slice (some ⟨w.heap.size + 1, 0, none⟩) i i)).setCell ⟨w.heap.size, 1, none⟩ (.slice (some ⟨w.heap.size + 1 + 1, 0, none⟩) i i) := ⟨_, rfl⟩
          have hsx : x1.heap.size = wr.heap.size := by rw [hx1]; simp [World.setCell]
          rw [← hx1] at hT1 hE1 hb1 hw1 ⊢
          rw [← hsx]
          have hs1 := hw1.size
          clear hx1 hT e0 e1 f0 f1 hE hb hwk
          refine (poly_new w.heap.size x1.heap.size 0 1 1 [0] _ (Rd.of_blk (Blk.new x1 3 (ints .i64 [0]))) rfl (by omega) (by omega) (by omega)).mono ?_
          rintro e x2 ⟨z, rfl, hz, hb2⟩
          have hs2 := hb2.size
          rw [World.size_alloc] at hs2
          have hw2' : Below x1.heap.size x1 x2 := ((Below.refl _ _).alloc (Nat.le_refl _) _).trans (hb2.mono (by simp))
          have hT2 := hT1.below hw2' hT1.lt
          have hE2 := hE1.below hw2' hE1.lt
          have hL2 := hb1.below hw2' hb1.lt
          have e2 := hT2.cell 2
          have f2 := hT2.frozen 2
          simp only [List.getElem?_toArray, List.getElem?_cons_zero, List.getElem?_cons_succ, List.setIfInBounds_toArray, List.set_cons_zero, List.set_cons_succ] at e2
          go_wp2_with fail
          have hkz : Kp [w.heap.size] x2 (x2.setCell ⟨w.heap.size, 2, none⟩ (.pointer (some ⟨z, 0, none⟩))) := (Kp.refl _ _).setCell (by simp) _
          have hoz : Off x2 [w.heap.size] [3, 330] := by
            intro b hb t arr hbb
            simp only [List.mem_cons, List.not_mem_nil, or_false] at hb
            subst hb
            have := hbb.symm.trans hT2; injection this with this; injection this with _ ht; subst ht; decide
          have hz3 := hz.kpP hkz hoz
          have hT3 := hT2.set_ 2 (.pointer (some ⟨z, 0, none⟩))
          have hE3 := hE2.kp hkz (by simp)
          have hL3 := hL2.kp hkz (by simp; omega)
          have hw3 := (below_trans' hw1 hw2' hs1).setCell (p := ⟨w.heap.size, 2, none⟩) (Nat.le_refl _) (.pointer (some ⟨z, 0, none⟩))
          obtain ⟨x3, hx3⟩ : ∃ x3, x3 = x2.setCell ⟨w.heap.size, 2, none⟩ (.pointer (some ⟨z, 0, none⟩)) := ⟨_, rfl⟩
          have hsx3 : x3.heap.size = x2.heap.size := by rw [hx3]; simp [World.setCell]
          rw [← hx3] at hT3 hE3 hL3 hw3 hz3 ⊢
          rw [← hsx3]
          have hs3 := hw3.size
          clear hx3 e2 f2 hT2 hE2 hL2 hkz hoz hz hT1 hE1 hb1 hw1 hw2' hb2
          refine (poly_new w.heap.size x3.heap.size 0 1 1 [1] _ (Rd.of_blk (Blk.new x3 3 (ints .i64 [1]))) rfl (by omega) (by omega) (by omega)).mono ?_
          rintro e x4 ⟨o, rfl, ho, hb4⟩
          have hs4 := hb4.size
          rw [World.size_alloc] at hs4
          have hw4' : Below x3.heap.size x3 x4 := ((Below.refl _ _).alloc (Nat.le_refl _) _).trans (hb4.mono (by simp))
          have hT4 := hT3.below hw4' hT3.lt
          have hE4 := hE3.below hw4' hE3.lt
          have hL4 := hL3.below hw4' hL3.lt
          have hz4 := hz3.below hw4'
          have e3 := hT4.cell 3
          have f3 := hT4.frozen 3
          simp only [List.getElem?_toArray, List.getElem?_cons_zero, List.getElem?_cons_succ, List.setIfInBounds_toArray, List.set_cons_zero, List.set_cons_succ] at e3
          go_wp2_with fail
          go_ret
          have hko : Kp [w.heap.size] x4 (x4.setCell ⟨w.heap.size, 3, none⟩ (.pointer (some ⟨o, 0, none⟩))) := (Kp.refl _ _).setCell (by simp) _
          have hoo : Off x4 [w.heap.size] [3, 330] := by
            intro b hb t arr hbb
            simp only [List.mem_cons, List.not_mem_nil, or_false] at hb
            subst hb
            have := hbb.symm.trans hT4; injection this with this; injection this with _ ht; subst ht; decide
          have h256 := HN.out
          subst h256
          exact ⟨_, rfl, ⟨_, _, z, o, hT4.set_ 3 _, hE4.kp hko (by simp), hL4.kp hko (by simp; omega), hz4.kpP hko hoo, ho.kpP hko hoo⟩, (below_trans' hw3 hw4' hs3).setCell (p := ⟨w.heap.size, 3, none⟩) (Nat.le_refl _) _, Nat.le_refl _⟩
theorem field_any (w : World) :
    Calls Tryz.prog 130 #[.int .i64 285, .int .i64 256, .int .i64 0] w
      fun e w' => ∃ F, e = .returned (.pointer (some ⟨F, 0, none⟩)) ∧ Field w' F ∧ Below w.heap.size w w' ∧ w.heap.size ≤ F := field_any' 256 rfl w
theorem qrfield_any (w : World) :
    Calls Tryz.prog 89 #[] w
      fun e w' => ∃ F, e = .returned (.pointer (some ⟨F, 0, none⟩)) ∧ Field w' F ∧ Below w.heap.size w w' ∧ w.heap.size ≤ F := by
  go_enter Tryz.func89, Tryz.ntmps89
  go_wp2_with fail
  refine (field_any w).mono ?_
  rintro e w1 ⟨F, rfl, h⟩
  go_wp2_with fail
  go_ret
  exact ⟨F, rfl, h⟩
end Go.Proofs.YtcekbhhpcmhicaaGreatDoor
namespace Go.Proofs.YtcekbhhpcmhicaaGreatDoor
open Go.RowKit Go.QW Go.QGF

theorem byte_info : (Tryz.prog.info? 5).map (fun i => (i.zero, i.size, i.bytes)) = some (some (.int .u8 0), 1, 1) := by kernel_rfl
theorem wrap_nat_u8 (n : Nat) (h : n < 256) : IntKind.u8.wrap (n : Int) = (n : Int) := by
  unfold IntKind.wrap
  simp [IntKind.bits, IntKind.signed]
  omega
theorem enc_new1 (F : Nat) (w : World) (hF : Field w F) :
    Calls Tryz.prog 153 #[.pointer (some ⟨F, 0, none⟩)] w fun e w' => ∃ E v p, e = .returned (.pointer (some ⟨E, 0, none⟩)) ∧ Enc w' F E 1 v [p] ∧ Poly w' F p [1] ∧ Below w.heap.size w w' ∧ (∀ k, v.ownBlock = some k → w.heap.size ≤ k ∧ k < E) ∧ w.heap.size ≤ E := enc_new F w hF

set_option maxHeartbeats 2000000 in
set_option maxRecDepth 100000 in
theorem genEc_any (g n ec cap : Nat) (data : List Nat) (w : World) (hb : Blk w g 5 (ints .u8 data)) (hn : data.length = n) (ok : Ok data) (h1 : 1 ≤ n) (h2 : n ≤ 3000) (h3 : 1 ≤ ec) (h4 : ec ≤ 100) (hc : n ≤ cap) :
    Calls Tryz.prog 117 #[.slice (some ⟨g, 0, none⟩) n cap, .int .i64 ec] w
      fun e w' => ∃ q ecs, e = .returned (.tuple #[.slice (some ⟨q, 0, none⟩) ec ec, .nilIface]) ∧ ecs.length = ec ∧ Ok ecs ∧ (∀ i, i < ec → ev (ex i) (data ++ ecs) = 0) ∧ Blk w' q 5 (ints .u8 ecs) ∧ Below w.heap.size w w' := by
  have hmk := make_flat Tryz.underlying138 int_info (by decide) (n + ec) ((n : Int) + (ec : Int)) (by omega) (by omega)
  have hmk2 := make_flat Tryz.underlying30 byte_info (by decide) ec (ec : Int) rfl (by omega)
  have hgl := hb.lt
  go_enter Tryz.func117, Tryz.ntmps117
  go_wp2_with fail
  go_loopw [8] (fun t wr => ∃ i : Nat, i ≤ n ∧ t = .int .i64 i ∧ Blk wr w.heap.size 3 (ints .i64 (tab (n + ec) fun j => if j < i then nth data j else 0)) ∧ Below w.heap.size w wr) (fun t _ => n - (intOf t).toNat)
  case atStart => exact ⟨0, by omega, rfl, by rw [show (fun j => if j < 0 then nth data j else 0) = fun _ => 0 from by funext j; simp, tab_zero]; exact Blk.new _ _ _, (Below.refl _ _).alloc (Nat.le_refl _) _⟩
  case round =>
    obtain ⟨i, hi, rfl, hB, hw⟩ := hrel
    have hsz := hw.size
    by_cases hlt : i < n
    · have hc' := (hb.below hw hgl).cell i
      rw [ints_get (by omega)] at hc'
      have hd := hB.cell i
      rw [ints_get (by rw [tab_length]; omega), nth_tab (by omega)] at hd
      have hfz := hB.frozen i
      have h256 : nth data i < 256 := by rw [nth_eq]; exact ok.getD i
      have hand : bits .and .i64 ((nth data i : Nat) : Int) 255 = ((nth data i : Nat) : Int) := by
        have := i64_and (nth data i) 255 (by omega) (by omega)
        rw [show nth data i &&& 255 = nth data i from by rw [Nat.and_two_pow_sub_one_eq_mod (n := 8)]; omega] at this
        exact this
      go_wp2
      go_roundw
      case rel =>
        refine ⟨i + 1, by omega, by go_num, ?_, hw.setCell (Nat.le_refl _) _⟩
        have := hB.set_ i (.int .i64 ((nth data i : Nat) : Int))
        rw [ints_set, tab_set] at this
        rw [tab_congr (g := fun j => if j = i then nth data i else if j < i then nth data j else 0) (fun j _ => by
          by_cases h1 : j = i
          · subst h1; simp
          · rw [if_neg h1]; by_cases h2 : j < i
            · rw [if_pos h2, if_pos (by omega)]
            · rw [if_neg h2, if_neg (by omega)])]
        exact this
      case measure => simp [intOf]; omega
    · have hie : i = n := by omega
      subst hie
      have hte : (tab (i + ec) fun j => if j < i then nth data j else 0) = data ++ List.replicate ec 0 := by
        apply ext_nth (by simp [tab_length]; omega)
        intro j hj
        rw [tab_length] at hj
        rw [nth_tab hj]
        by_cases h : j < i
        · rw [if_pos h, nth_append_left (by omega)]
        · have := nth_append_right (l := data) (m := List.replicate ec 0) (i := j - data.length)
          rw [show data.length + (j - data.length) = j from by omega] at this
          rw [if_neg h, this, nth_replicate, ite_self]
      rw [hte] at hB
      clear hte hi hlt
      go_wp2_with fail
      refine (qrfield_any wr).mono ?_
      rintro e w1 ⟨F, rfl, hF, hb1, hFl⟩
      have hs1 := hb1.size
      go_wp2_with fail
      refine (enc_new F w1 hF).mono ?_
      rintro e w2 ⟨E, v, p, rfl, hE, hp, hb2, hv, hEl⟩
      have hs2 := hb2.size
      have hB2 := (hB.below hb1 hB.lt).below hb2 (by have := hB.lt; omega)
      go_wp2_with fail
      refine (enc_any F E w.heap.size p i ec (i + ec) v data w2 (hF.below hb2) hE hp hB2 hn ok h1 h2 h3 h4 (Nat.le_refl _) (by omega)).mono ?_
      rintro e w3 ⟨ecs, rfl, hel, heok, hev, hB3, hk3⟩
      have hs3 := hk3.size
      have hw2 : Below w.heap.size w w2 := below_trans' (below_trans' hw hb1 hsz) hb2 (by omega)
      have hw3 : Below w.heap.size w w3 := below_of_kp hw2 hk3 (by omega) (by
        intro k hk
        rcases List.mem_cons.1 hk with rfl | hk
        · exact Nat.le_refl _
        · rcases List.mem_cons.1 hk with rfl | hk
          · omega
          · have := (hv k (by simpa using hk)).1; omega)
      have HEV := Lib.hid hev
      clear hev hB2 hB hE hp hv hk3
      go_wp2_with fail
      obtain ⟨wo, rfl⟩ : ∃ wo : World, wo = w3 := ⟨_, rfl⟩
      have hBlt := hB3.lt
      have hB3' := hB3.alloc (Obj.cells (ints IntKind.u8 (List.replicate ec 0)) 5)
      go_loopw [11] (fun t wr => ∃ k : Nat, k ≤ ec ∧ t = .int .i64 k ∧ Blk wr wo.heap.size 5 (ints .u8 (tab ec fun j => if j < k then nth ecs j else 0)) ∧ Below wo.heap.size wo wr) (fun t _ => ec - (intOf t).toNat)
      case atStart => exact ⟨0, by omega, rfl, by rw [show (fun j => if j < 0 then nth ecs j else 0) = fun _ => 0 from by funext j; simp, tab_zero]; exact Blk.new _ _ _, (Below.refl _ _).alloc (Nat.le_refl _) _⟩
      case round =>
        obtain ⟨k, hk, rfl, hR, hwk⟩ := hrel
        have hszk := hwk.size
        by_cases hlt : k < ec
        · have hc' := (hB3.below hwk hBlt).cell (i + k)
          rw [ints_get (by rw [List.length_append]; omega)] at hc'
          have hnk : nth (data ++ ecs) (i + k) = nth ecs k := by rw [← hn]; exact nth_append_right
          rw [hnk] at hc'
          have hd := hR.cell k
          rw [ints_get (by rw [tab_length]; omega), nth_tab hlt] at hd
          have hfz := hR.frozen k
          have h256 : nth ecs k < 256 := by rw [nth_eq]; exact heok.getD k
          have hwrap : IntKind.u8.wrap ((nth ecs k : Nat) : Int) = ((nth ecs k : Nat) : Int) := wrap_nat_u8 _ h256
          clear hnk
          go_wp2
          go_roundw
          case rel =>
            refine ⟨k + 1, by omega, by go_num, ?_, hwk.setCell (Nat.le_refl _) _⟩
            have := hR.set_ k (.int .u8 ((nth ecs k : Nat) : Int))
            rw [ints_set, tab_set] at this
            rw [tab_congr (g := fun j => if j = k then nth ecs k else if j < k then nth ecs j else 0) (fun j _ => by
              by_cases h1 : j = k
              · subst h1; simp
              · rw [if_neg h1]; by_cases h2 : j < k
                · rw [if_pos h2, if_pos (by omega)]
                · rw [if_neg h2, if_neg (by omega)])]
            exact this
          case measure => simp [intOf]; omega
        · have hke : k = ec := by omega
          subst hke
          have hte : (tab k fun j => if j < k then nth ecs j else 0) = ecs := by
            conv => rhs; rw [← tab_nth ecs, hel]
            exact tab_congr (fun j hj => by rw [if_pos hj])
          rw [hte] at hR
          go_wp2
          go_ret2
          exact ⟨_, ecs, rfl, hel, heok, HEV.out, hR, below_trans' hw3 hwk (by omega)⟩
end Go.Proofs.YtcekbhhpcmhicaaGreatDoor
namespace Go.Proofs.YtcekbhhpcmhicaaGreatDoor
open Go.RowKit Go.QW

theorem ofInt_u32 (a : Nat) (ha : a < 4294967296) : (BitVec.ofInt 32 (a : Int)).toNat = a := by
  rw [BitVec.toNat_ofInt]; omega
theorem wrap_nat_u32 (n : Nat) (h : n < 4294967296) : IntKind.u32.wrap (n : Int) = (n : Int) := by
  unfold IntKind.wrap
  simp [IntKind.bits, IntKind.signed]
  omega
theorem u32_or (a b : Nat) (ha : a < 4294967296) (hb : b < 4294967296) : bits .or .u32 (a : Int) (b : Int) = ((a ||| b : Nat) : Int) := by
  have hx : a ||| b < 2 ^ 32 := Nat.or_lt_two_pow (by omega) (by omega)
  show IntKind.u32.wrap ((BitVec.ofInt 32 (a : Int) ||| BitVec.ofInt 32 (b : Int)).toNat : Int) = _
  rw [BitVec.toNat_or, ofInt_u32 a ha, ofInt_u32 b hb, wrap_nat_u32 _ (by omega)]
theorem u32_and (a b : Nat) (ha : a < 4294967296) (hb : b < 4294967296) : bits .and .u32 (a : Int) (b : Int) = ((a &&& b : Nat) : Int) := by
  have hx : a &&& b < 2 ^ 32 := Nat.and_lt_two_pow _ (by omega)
  show IntKind.u32.wrap ((BitVec.ofInt 32 (a : Int) &&& BitVec.ofInt 32 (b : Int)).toNat : Int) = _
  rw [BitVec.toNat_and, ofInt_u32 a ha, ofInt_u32 b hb, wrap_nat_u32 _ (by omega)]
theorem u32_xor (a b : Nat) (ha : a < 4294967296) (hb : b < 4294967296) : bits .xor .u32 (a : Int) (b : Int) = ((a ^^^ b : Nat) : Int) := by
  have hx : a ^^^ b < 2 ^ 32 := Nat.xor_lt_two_pow (by omega) (by omega)
  show IntKind.u32.wrap ((BitVec.ofInt 32 (a : Int) ^^^ BitVec.ofInt 32 (b : Int)).toNat : Int) = _
  rw [BitVec.toNat_xor, ofInt_u32 a ha, ofInt_u32 b hb, wrap_nat_u32 _ (by omega)]
theorem two_pow_lt32 (r : Nat) (hr : r < 32) : 2 ^ r < 4294967296 := by
  have : (2 : Nat) ^ r < 2 ^ 32 := Nat.pow_lt_pow_right (by decide) hr
  omega
theorem two_pow_u32 (r : Nat) (hr : r < 32) : (2 : Int) ^ r % 4294967296 = ((2 ^ r : Nat) : Int) := by
  have h2 : ((2 : Int)) ^ r = ((2 ^ r : Nat) : Int) := by rw [Int.natCast_pow]; rfl
  rw [h2]
  exact Int.emod_eq_of_lt (Int.natCast_nonneg _) (Int.ofNat_lt.2 (two_pow_lt32 r hr))
theorem getD_snoc (bs : List Bool) (b : Bool) (i : Nat) : (bs ++ [b]).getD i false = if i = bs.length then b else bs.getD i false := by
  rw [List.getD_eq_getElem?_getD, List.getD_eq_getElem?_getD]
  by_cases h : i < bs.length
  · rw [List.getElem?_append_left h, if_neg (by omega)]
  · rw [List.getElem?_append_right (by omega)]
    by_cases e : i = bs.length
    · subst e; simp
    · rw [if_neg e, List.getElem?_eq_none (by simp; omega), List.getElem?_eq_none (by omega)]
theorem getD_past (bs : List Bool) (i : Nat) (h : bs.length ≤ i) : bs.getD i false = false := by
  rw [List.getD_eq_getElem?_getD, List.getElem?_eq_none h]; rfl
/-- one bit is set -/
theorem words_set {ws : List Nat} {bs : List Bool} (h : ∀ i, (nth ws (i / 32)).testBit (i % 32) = bs.getD i false) (n : Nat) (hq : n / 32 < ws.length) (i : Nat) :
    (nth (ws.set (n / 32) (nth ws (n / 32) ||| 2 ^ (n % 32))) (i / 32)).testBit (i % 32) = (decide (i = n) || bs.getD i false) := by
  rw [nth_set hq, ← h i]
  by_cases h1 : i / 32 = n / 32
  · rw [if_pos h1, Nat.testBit_or, Nat.testBit_two_pow, h1, Bool.or_comm]
    congr 1
    apply decide_eq_decide.2
    omega
  · rw [if_neg h1, decide_eq_false (by rintro rfl; exact h1 rfl), Bool.false_or]

theorem word_info : (Tryz.prog.info? 252).map (fun i => (i.zero, i.size, i.bytes)) = some (some (.int .u32 0), 1, 4) := by kernel_rfl
/-- the bits bs: in words of 32, block g; zeros behind -/
structure Bits (w : World) (A g c : Nat) (bs : List Bool) : Prop where
  mk' ::
  ex : ∃ ws : List Nat, Blk w A 187 #[.slice (some ⟨g, 0, none⟩) ws.length ws.length, .int .i64 bs.length] ∧ Blk w g 252 (ints .u32 ws) ∧ bs.length ≤ 32 * ws.length ∧ c ≤ 32 * ws.length ∧ ws.length ≤ 100000 ∧
    (∀ x, x ∈ ws → x < 4294967296) ∧ ∀ i, (nth ws (i / 32)).testBit (i % 32) = bs.getD i false

set_option maxRecDepth 100000 in
theorem marr_any (n m : Nat) (hn : n ≤ 1000000) (hm : m = (n + 31) / 32) (w : World) :
    Calls Tryz.prog 98 #[.int .i64 n] w fun e w' => e = .returned (.slice (some ⟨w.heap.size, 0, none⟩) m m) ∧ w' = w.alloc (.cells (ints .u32 (List.replicate m 0)) 252) := by
  have hd : Int.tdiv ((n : Int) + 31) 32 = (m : Int) := by
    rw [Int.tdiv_eq_ediv_of_nonneg (by omega)]; omega
  have hmk := make_flat Tryz.underlying184 word_info (by decide) m (m : Int) rfl (by omega)
  have hml : m ≤ 1000000 := by omega
  clear hm
  go_enter Tryz.func98, Tryz.ntmps98
  go_wp2
  go_ret
  exact ⟨rfl, rfl⟩

theorem Bits.lts {w : World} {A g c : Nat} {bs : List Bool} (h : Bits w A g c bs) : A < w.heap.size ∧ g < w.heap.size ∧ A ≠ g := by
  obtain ⟨ws, h1, h2, -⟩ := h.ex
  exact ⟨h1.lt, h2.lt, h1.ne_ h2 (by decide)⟩
theorem Bits.kp {w w' : World} {S : List Nat} {A g c : Nat} {bs : List Bool} (h : Bits w A g c bs) (hk : Kp S w w') (h1 : A ∉ S) (h2 : g ∉ S) : Bits w' A g c bs := by
  obtain ⟨ws, b1, b2, r⟩ := h.ex
  exact ⟨ws, b1.kp hk h1, b2.kp hk h2, r⟩
theorem Bits.heap {w w' : World} {A g c : Nat} {bs : List Bool} (h : Bits w A g c bs) (e : w'.heap = w.heap) : Bits w' A g c bs := by
  obtain ⟨ws, b1, b2, r⟩ := h.ex
  refine ⟨ws, ?_, ?_, r⟩ <;> unfold Blk <;> rw [e] <;> assumption

set_option maxRecDepth 100000 in
theorem ensure_any (A g c n : Nat) (bs : List Bool) (w : World) (h : Bits w A g c bs) (hn : n ≤ 1000000) :
    Calls Tryz.prog 112 #[.pointer (some ⟨A, 0, none⟩), .int .i64 n] w fun e w' => ∃ g', e = .returned (.tuple #[]) ∧ (g' = g ∨ w.heap.size ≤ g') ∧ Bits w' A g' n bs ∧ Kp [A] w w' := by
  obtain ⟨ws, hA, hg, hl, hc, hm, hw, ht⟩ := h.ex
  have a0 := hA.cell 0
  have f0 := hA.frozen 0
  have hgl := hg.lt
  have hAl := hA.lt
  simp only [List.getElem?_toArray, List.getElem?_cons_zero] at a0
  have HW := Lib.hid hw
  have HT := Lib.hid ht
  clear hw ht
  by_cases hgt : ws.length * 32 < n
  · have hd : decide ((ws.length : Int) * 32 < (n : Int)) = true := by simp; omega
    obtain ⟨m, hm'⟩ : ∃ m, m = (n + 31) / 32 := ⟨_, rfl⟩
    go_enter Tryz.func112, Tryz.ntmps112
    go_wp2_with fail
    refine (marr_any n m hn hm' w).mono ?_
    rintro e w1 ⟨rfl, rfl⟩
    go_wp2_with fail
    have hml : m ≤ 100000 := by omega
    have hws : ws.length ≤ m := by omega
    have hn32 : n ≤ 32 * m := by omega
    subst hm'
    refine upon_copy_ints Tryz.underlying184 (by kernel_rfl) .u32 252 (List.replicate ((n + 31) / 32) 0) ws (Blk.new w _ _) ?_ ?_ ?_ ?_
    · show ws.length = min ws.length ((n + 31) / 32)
      omega
    · intro j hj
      rw [Nat.zero_add, (hg.alloc _).cell, ints_get hj]
    · rw [List.length_replicate]; omega
    intro w2 hb2 hk2 hs2
    have hw2 : Below w.heap.size w w2 := below_of_kp ((Below.refl _ _).alloc (Nat.le_refl _) _) hk2 (by simp) (by simp)
    have hA2 := hA.below hw2 hAl
    have a2 := hA2.cell 0
    have f2 := hA2.frozen 0
    simp only [List.getElem?_toArray, List.getElem?_cons_zero] at a2
    go_wp2
    go_end0
    have hlen : (splice (List.replicate ((n + 31) / 32) 0) 0 ws).length = (n + 31) / 32 := by rw [length_splice _ _ _ (by rw [List.length_replicate]; omega), List.length_replicate]
    have hnth : ∀ i, nth (splice (List.replicate ((n + 31) / 32) 0) 0 ws) i = nth ws i := by
      intro i
      rw [nth_splice (by rw [List.length_replicate]; omega), if_neg (by omega), Nat.zero_add, Nat.sub_zero]
      split
      · rfl
      · rw [nth_replicate, ite_self, nth_ge (by omega)]
    refine ⟨w.heap.size, rfl, .inr (Nat.le_refl _), ⟨splice (List.replicate ((n + 31) / 32) 0) 0 ws, ?_, hb2.far (by simp; omega) _, by omega, by omega, by omega, ?_, ?_⟩, ?_⟩
    · rw [hlen]; exact hA2.set_ 0 _
    · intro x hx
      obtain ⟨j, hj, rfl⟩ := List.mem_iff_getElem.1 hx
      rw [← nth_get hj, hnth]
      by_cases h : j < ws.length
      · rw [nth_get h]; exact HW.out _ (List.getElem_mem h)
      · rw [nth_ge (by omega)]; decide
    · intro i; rw [hnth]; exact HT.out i
    · exact (Kp.mono (T := [A]) (Kp.of_below hw2 : Kp [] w w2) (by simp)).setCell (by simp) _
  · have hd : decide ((ws.length : Int) * 32 < (n : Int)) = false := by simp; omega
    go_enter Tryz.func112, Tryz.ntmps112
    go_wp2_with fail
    go_end0
    exact ⟨g, rfl, .inl rfl, ⟨ws, hA, hg, hl, by omega, hm, HW.out, HT.out⟩, Kp.refl _ _⟩

set_option maxRecDepth 100000 in
theorem appendBit_any (A g c : Nat) (bs : List Bool) (b : Bool) (w : World) (h : Bits w A g c bs) (hn : bs.length ≤ 900000) :
    Calls Tryz.prog 113 #[.pointer (some ⟨A, 0, none⟩), .bool b] w fun e w' => ∃ g', e = .returned (.tuple #[]) ∧ (g' = g ∨ w.heap.size ≤ g') ∧ Bits w' A g' 0 (bs ++ [b]) ∧ Kp [A, g] w w' := by
  obtain ⟨hAl, hgl, hne⟩ := h.lts
  obtain ⟨ws0, hA0, -, -⟩ := h.ex
  have a1 := hA0.cell 1
  simp only [List.getElem?_toArray, List.getElem?_cons_zero, List.getElem?_cons_succ] at a1
  go_enter Tryz.func113, Tryz.ntmps113
  go_wp2_with fail
  have hcast : (bs.length : Int) + 1 = ((bs.length + 1 : Nat) : Int) := by omega
  rw [hcast]
  refine (ensure_any A g c (bs.length + 1) bs w h (by omega)).mono ?_
  rintro e w1 ⟨g', rfl, hg', hB, hk⟩
  have hs1 := hk.size
  obtain ⟨ws, hA, hg, hl, hc, hm, hw, ht⟩ := hB.ex
  clear a1 hA0 h hB
  have a0 := hA.cell 0
  have a1 := hA.cell 1
  have f1 := hA.frozen 1
  simp only [List.getElem?_toArray, List.getElem?_cons_zero, List.getElem?_cons_succ] at a0 a1
  obtain ⟨n, hnn⟩ : ∃ n, n = bs.length := ⟨_, rfl⟩
  rw [← hnn] at hcast a1 hn hc hl hA ⊢
  have hq : Int.tdiv (n : Int) 32 = ((n / 32 : Nat) : Int) := by rw [Int.tdiv_eq_ediv_of_nonneg (by omega)]; omega
  have hr : Int.tmod (n : Int) 32 = ((n % 32 : Nat) : Int) := by rw [Int.tmod_eq_emod_of_nonneg (by omega)]; omega
  have HW := Lib.hid hw
  have HT := Lib.hid ht
  have HN := Lib.hid hnn
  clear hw ht hnn hcast
  cases b with
  | false =>
    go_wp2_with fail
    go_end0
    have hnn := HN.out
    refine ⟨g', rfl, hg', ⟨ws, ?_, hg.far (Ne.symm (hA.ne_ hg (by decide))) _, by rw [List.length_append, ← hnn]; exact hc, by omega, hm, HW.out, ?_⟩, ?_⟩
    · rw [List.length_append, ← hnn]
      exact hA.set_ 1 (.int .i64 ((n : Int) + 1))
    · intro i
      rw [HT.out, getD_snoc]
      by_cases e : i = bs.length
      · rw [if_pos e, getD_past _ _ (by omega)]
      · rw [if_neg e]
    · exact (hk.mono (T := [A, g]) (by intro k hk _; simp at hk ⊢; exact .inl hk)).setCell (by simp) _
  | true =>
    have hqlt : n / 32 < ws.length := by omega
    have hcw := hg.cell (n / 32)
    rw [ints_get hqlt] at hcw
    have hfw := hg.frozen (n / 32)
    go_wp2_with fail
    refine wp_region_quiet_tail 20 (by rfl) (by kernel_rfl) ?_
    simp only [List.take_succ_cons, List.take_zero, List.drop_succ_cons, List.drop_zero]
    repeat (go_big_quiet_step (fail))
    refine wpQuiet_nil ?_
    intro _ hw''
    obtain ⟨nr, rfl⟩ := hw''
    go_wp2_with fail
    go_end0
    have hnn := HN.out
    have hxl : nth ws (n / 32) < 4294967296 := by rw [nth_get (by omega)]; exact HW.out _ (List.getElem_mem _)
    have h2l := two_pow_lt32 (n % 32) (by omega)
    rw [two_pow_u32 _ (by omega), u32_or _ _ hxl h2l]
    have hgA : A ≠ g' := hA.ne_ hg (by decide)
    have hgn : ∀ v, Blk ((w1.drewN nr).setCell ⟨g', n / 32, none⟩ (.int .u32 v)) A _ _ := fun v => (hA.drewN nr).far (p := ⟨g', n / 32, none⟩) hgA _
    have hg2 := ((hg.drewN nr).set_ (n / 32) (.int .u32 ((nth ws (n / 32) ||| 2 ^ (n % 32) : Nat) : Int))).far (p := ⟨A, 1, none⟩) (Ne.symm hgA) (.int .i64 ((n : Int) + 1))
    rw [ints_set] at hg2
    have hgl' := hg.lt
    refine ⟨g', rfl, hg', ⟨_, ?_, hg2, by rw [List.length_append, List.length_set, ← hnn]; exact hc, by omega, by rw [List.length_set]; exact hm, ?_, ?_⟩, ?_⟩
    · rw [List.length_append, ← hnn, List.length_set]
      exact (hgn _).set_ 1 (.int .i64 ((n : Int) + 1))
    · intro x hx
      rcases List.mem_or_eq_of_mem_set hx with hx | rfl
      · exact HW.out x hx
      · exact Nat.or_lt_two_pow (n := 32) hxl h2l
    · intro i
      rw [words_set HT.out n (by omega), getD_snoc]
      by_cases e : i = bs.length
      · rw [if_pos e, decide_eq_true (by omega), Bool.true_or]
      · rw [if_neg e, decide_eq_false (by omega), Bool.false_or]
    · refine (((hk.mono (T := [A, g]) (by intro k hk _; simp at hk ⊢; exact .inl hk)).drewN nr).setCell ?_ _).setCell (by simp) _
      intro hlt
      rcases hg' with rfl | h
      · simp
      · simp only at hlt; omega
end Go.Proofs.YtcekbhhpcmhicaaGreatDoor
namespace Go.Proofs.YtcekbhhpcmhicaaGreatDoor
open Go.RowKit Go.QW

theorem size_any (A g c : Nat) (bs : List Bool) (w : World) (h : Bits w A g c bs) :
    Calls Tryz.prog 109 #[.pointer (some ⟨A, 0, none⟩)] w fun e w' => e = .returned (.int .i64 bs.length) ∧ w = w' := by
  obtain ⟨ws, hA, -⟩ := h.ex
  have a1 := hA.cell 1
  simp only [List.getElem?_toArray, List.getElem?_cons_zero, List.getElem?_cons_succ] at a1
  go_enter Tryz.func109, Tryz.ntmps109
  go_wp2
  go_ret
  exact ⟨rfl, rfl⟩
theorem sizeb_any (A g c : Nat) (bs : List Bool) (w : World) (h : Bits w A g c bs) (hn : bs.length ≤ 1000000) :
    Calls Tryz.prog 55 #[.pointer (some ⟨A, 0, none⟩)] w fun e w' => e = .returned (.int .i64 ((bs.length + 7) / 8 : Nat)) ∧ w = w' := by
  obtain ⟨ws, hA, -⟩ := h.ex
  have a1 := hA.cell 1
  simp only [List.getElem?_toArray, List.getElem?_cons_zero, List.getElem?_cons_succ] at a1
  go_enter Tryz.func55, Tryz.ntmps55
  go_wp2
  go_ret
  refine ⟨?_, rfl⟩
  rfl
theorem and_two_pow' (x r : Nat) : x &&& 2 ^ r = if x.testBit r = true then 2 ^ r else 0 := by
  apply Nat.eq_of_testBit_eq
  intro j
  rw [Nat.testBit_and, Nat.testBit_two_pow]
  by_cases h : r = j
  · subst h
    cases hx : x.testBit r <;> simp
  · rw [decide_eq_false h, Bool.and_false]
    split
    · rw [Nat.testBit_two_pow, decide_eq_false h]
    · simp
theorem test_and (x r : Nat) : (((x &&& 2 ^ r : Nat) : Int) == 0) = !x.testBit r := by
  rw [and_two_pow']
  have h0 : 2 ^ r ≠ 0 := Nat.ne_of_gt (Nat.pow_pos (by decide))
  cases x.testBit r with
  | false => rfl
  | true =>
    simp only [if_true, Bool.not_true]
    rw [beq_eq_false_iff_ne]
    omega
theorem get_any (A g c : Nat) (bs : List Bool) (i : Nat) (w : World) (h : Bits w A g c bs) (hi : i < bs.length) :
    Calls Tryz.prog 114 #[.pointer (some ⟨A, 0, none⟩), .int .i64 i] w fun e w' => e = .returned (.bool (bs.getD i false)) ∧ w = w' := by
  obtain ⟨ws, hA, hg, hl, hc, hm, hw, ht⟩ := h.ex
  have a0 := hA.cell 0
  simp only [List.getElem?_toArray, List.getElem?_cons_zero] at a0
  have hq : i / 32 < ws.length := by omega
  have hx : nth ws (i / 32) < 4294967296 := by rw [nth_get hq]; exact hw _ (List.getElem_mem hq)
  have hcw := hg.cell (i / 32)
  rw [ints_get hq] at hcw
  have hHT := Lib.hid (ht i)
  have hib : i ≤ 4000000 := by omega
  have hlw := ws.length
  clear ht hw
  go_enter Tryz.func114, Tryz.ntmps114
  go_wp2
  go_ret
  refine ⟨?_, rfl⟩
  rw [two_pow_u32 _ (by omega), u32_and _ _ hx (two_pow_lt32 _ (by omega)), ← hHT.out]
  have := test_and (nth ws (i / 32)) (i % 32)
  show Ending.returned (Value.bool (_ != 0)) = _
  rw [bne, this, Bool.not_not]
set_option maxHeartbeats 2000000 in
set_option maxRecDepth 100000 in
theorem newbits_any (w : World) :
    Calls Tryz.prog 44 #[] w fun e w' => ∃ A g, e = .returned (.pointer (some ⟨A, 0, none⟩)) ∧ Bits w' A g 0 [] ∧ w.heap.size ≤ A ∧ w.heap.size ≤ g ∧ Below w.heap.size w w' := by
  go_enter Tryz.func44, Tryz.ntmps44
  go_wp2_with fail
  refine (marr_any 1 1 (by omega) (by omega) w).mono ?_
  rintro e w1 ⟨rfl, rfl⟩
  go_wp2
  go_ret
  refine ⟨w.heap.size + 1, w.heap.size, rfl, ⟨[0], ?_, (Blk.new w _ _).alloc _, by simp, by simp, by simp, by simp, ?_⟩, by omega, Nat.le_refl _, ((Below.refl _ _).alloc (Nat.le_refl _) _).alloc (by simp) _⟩
  · have := Blk.new (w.alloc (Obj.cells (ints IntKind.u32 (List.replicate 1 0)) 252)) 187 #[.slice (some ⟨w.heap.size, 0, none⟩) 1 1, .int .i64 0]
    rw [World.size_alloc] at this
    exact this
  · intro i
    have : nth [0] (i / 32) = 0 := by
      by_cases h : i / 32 = 0
      · rw [h]; rfl
      · rw [nth_ge (by simp; omega)]
    rw [this]; simp
theorem Kp.keepOwn {_S : List Nat} {A g g' : Nat} {w w1 w2 : World} (h : Kp [A, g] w w1) (k : Kp [A, g'] w1 w2) (hg : g' = g ∨ w.heap.size ≤ g') : Kp [A, g] w w2 := by
  refine h.trans k ?_
  intro i hi hlt
  simp only [List.mem_cons, List.not_mem_nil, or_false] at hi ⊢
  rcases hi with rfl | rfl
  · exact .inl rfl
  · rcases hg with rfl | h
    · exact .inr rfl
    · omega
theorem take_snoc (bs : List Bool) (i : Nat) (h : i < bs.length) : bs.take (i + 1) = bs.take i ++ [bs.getD i false] := by
  rw [List.take_add_one, List.getD_eq_getElem?_getD, List.getElem?_eq_getElem h]; rfl

set_option maxHeartbeats 2000000 in
set_option maxRecDepth 100000 in
theorem appendArr_any (A g c A2 g2 c2 : Nat) (bs bs2 : List Bool) (w : World) (h : Bits w A g c bs) (h2 : Bits w A2 g2 c2 bs2) (hA : A2 ≠ A) (hg : g2 ≠ g) (hn : bs.length + bs2.length ≤ 800000) :
    Calls Tryz.prog 54 #[.pointer (some ⟨A, 0, none⟩), .pointer (some ⟨A2, 0, none⟩)] w fun e w' => ∃ g', e = .returned (.tuple #[]) ∧ (g' = g ∨ w.heap.size ≤ g') ∧ Bits w' A g' 0 (bs ++ bs2) ∧ Kp [A, g] w w' := by
  obtain ⟨hAl, hgl, hne⟩ := h.lts
  obtain ⟨hAl2, hgl2, hne2⟩ := h2.lts
  have hAg2 : g2 ≠ A := by
    obtain ⟨ws, b1, -⟩ := h.ex; obtain ⟨ws2, -, b2, -⟩ := h2.ex
    exact b2.ne_ b1 (by decide)
  have hA2g : A2 ≠ g := by
    obtain ⟨ws, -, b1, -⟩ := h.ex; obtain ⟨ws2, b2, -⟩ := h2.ex
    exact b2.ne_ b1 (by decide)
  obtain ⟨ws0, hB, -⟩ := h.ex
  obtain ⟨ws2, hB2, -⟩ := h2.ex
  have a1 := hB.cell 1
  have b1 := hB2.cell 1
  simp only [List.getElem?_toArray, List.getElem?_cons_zero, List.getElem?_cons_succ] at a1 b1
  go_enter Tryz.func54, Tryz.ntmps54
  go_wp2_with fail
  have hcast : (bs.length : Int) + (bs2.length : Int) = ((bs.length + bs2.length : Nat) : Int) := by omega
  rw [hcast]
  refine (ensure_any A g c (bs.length + bs2.length) bs w h (by omega)).mono ?_
  rintro e w1 ⟨g1, rfl, hg1, hB1, hk1⟩
  have hs1 := hk1.size
  clear hcast
  go_wp2_with fail
  have hk1' : Kp [A, g] w w1 := hk1.mono (by intro k hk _; simp at hk ⊢; exact .inl hk)
  go_loopw [5] (fun t wr => ∃ i g', i ≤ bs2.length ∧ t = .int .i64 (i : Nat) ∧ (g' = g ∨ w.heap.size ≤ g') ∧ (∃ c, Bits wr A g' c (bs ++ bs2.take i)) ∧ Kp [A, g] w wr) (fun t _ => bs2.length - (intOf t).toNat)
  case atStart => exact ⟨0, g1, by omega, rfl, hg1, ⟨_, by rw [List.take_zero, List.append_nil]; exact hB1⟩, hk1'⟩
  case round =>
    obtain ⟨i, g', hi, rfl, hg', ⟨c', hB'⟩, hk⟩ := hrel
    have hsz := hk.size
    by_cases hlt : i < bs2.length
    · have h2' := h2.kp hk (by simp [hA, hA2g]) (by simp [hg, hAg2])
      go_wp2_with fail
      refine (get_any A2 g2 c2 bs2 i _ h2' hlt).mono ?_
      rintro e w2 ⟨rfl, rfl⟩
      go_wp2_with fail
      refine (appendBit_any A g' c' _ _ _ hB' (by rw [List.length_append, List.length_take]; omega)).mono ?_
      rintro e w2 ⟨g'', rfl, hg'', hB'', hk''⟩
      go_wp2_with fail
      go_roundw
      case rel =>
        refine ⟨i + 1, g'', by omega, by go_num, ?_, ⟨0, ?_⟩, Kp.keepOwn (_S := []) hk hk'' hg'⟩
        · rcases hg'' with rfl | h
          · exact hg'
          · exact .inr (by omega)
        · rw [take_snoc _ _ hlt, ← List.append_assoc, show bs2.getD i false = bs2[i] by simp [List.getD_eq_getElem?_getD, hlt]]; exact hB''
      case measure => simp [intOf]; omega
    · have hie : i = bs2.length := by omega
      subst hie
      rw [List.take_length] at hB'
      go_wp2
      go_end0
      exact ⟨g', rfl, hg', by obtain ⟨ws, x1, x2, x3, x4, x5⟩ := hB'.ex; exact ⟨ws, x1, x2, x3, by omega, x5⟩, hk⟩
end Go.Proofs.YtcekbhhpcmhicaaGreatDoor
