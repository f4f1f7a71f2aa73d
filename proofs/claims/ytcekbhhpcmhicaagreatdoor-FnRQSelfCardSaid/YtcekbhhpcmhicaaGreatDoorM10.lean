/- The segments' bits: append8BitBytes, appendNumericBytes, appendAlphanumericBytes; The bits of a segment of digits: appendNumericBytes; The bits of an alphanumeric segment; The bits of an alphanumeric segment: appendAlphanumericBytes; The mode is chosen: chooseMode; Bits of the length's field; what a text needs; willFit; What fits into a version: willFit, calculateBitsNeeded, chooseVersion; The version is chosen: calculateBitsNeeded, chooseVersion, recommendVersion; The head's bits: appendModeInfo, appendLengthInfo, appendBytes. -/
import Derived.Test.YtcekbhhpcmhicaaGreatDoorM08
import Derived.Test.YtcekbhhpcmhicaaGreatDoorM09
import Derived.Lib.ConvBytes
namespace Go.Proofs.YtcekbhhpcmhicaaGreatDoor
open Go.RowKit Go.QW

/-- a string's bytes as numbers -/
def bytesOf (s : ByteArray) : List Nat := s.data.toList.map UInt8.toNat
theorem bytesOf_length (s : ByteArray) : (bytesOf s).length = s.size := by simp [bytesOf]
theorem bytesOf_get (s : ByteArray) (k : Nat) (h : k < s.size) : (s[k]).toNat = nth (bytesOf s) k := by
  rw [nth_get (by rw [bytesOf_length]; exact h)]
  simp [bytesOf]
  rfl
theorem bytesOf_getD (s : ByteArray) (k : Nat) (h : k < s.size) : (s.data.toList.getD k 0).toNat = nth (bytesOf s) k := by
  rw [nth_get (by rw [bytesOf_length]; exact h)]
  simp [bytesOf, h]
theorem bytesOf_lt (s : ByteArray) (k : Nat) : nth (bytesOf s) k < 256 := by
  by_cases h : k < s.size
  · rw [← bytesOf_get s k h]; exact UInt8.toNat_lt _
  · rw [nth_ge (by rw [bytesOf_length]; omega)]; decide
theorem take_snocN (l : List Nat) (i : Nat) (h : i < l.length) : l.take (i + 1) = l.take i ++ [nth l i] := by
  rw [List.take_add_one, List.getElem?_eq_getElem h, nth_get h]; rfl
theorem flat8_length (l : List Nat) (k : Nat) : (l.flatMap (bitsOf k)).length = k * l.length := by
  induction l with
  | nil => simp
  | cons x l ih => rw [List.flatMap_cons, List.length_append, ih, bitsOf_length, List.length_cons, Nat.mul_succ]; omega
set_option maxHeartbeats 2000000 in
set_option maxRecDepth 100000 in
theorem seg8_any (s : ByteArray) (A g c : Nat) (bs : List Bool) (w : World) (h : Bits w A g c bs) (hs : s.size ≤ 1000) (hn : bs.length ≤ 100) :
    Calls Tryz.prog 104 #[.string s, .pointer (some ⟨A, 0, none⟩)] w fun e w' => ∃ g', e = .returned .nilIface ∧ (g' = g ∨ w.heap.size ≤ g') ∧ Bits w' A g' 0 (bs ++ (bytesOf s).flatMap (bitsOf 8)) ∧ Kp [A, g] w w' := by
  have hcv : ∀ w, (convert 9 30 (.string s)).run Tryz.prog w = .ok (.slice (some ⟨w.heap.size, 0, none⟩) s.size (grownCap w s.size 0 5)) (Lib.bytesWorld w 5 s) := fun w => Lib.run_convert_string_bytes (u := .string) w 9 30 5 s (by kernel_rfl) (by kernel_rfl) (by kernel_rfl)
  obtain ⟨hAl, hgl, hne⟩ := h.lts
  have hkb : Kp [] w (Lib.bytesWorld w 5 s) := ⟨rfl, rfl, rfl, by rw [Lib.bytesWorld_size]; omega, fun k hk _ => Lib.bytesWorld_at_old w _ s k hk⟩
  have hsz1 := Lib.bytesWorld_size w 5 s
  have hcell : ∀ j, j < s.size → (Lib.bytesWorld w 5 s).cell? ⟨w.heap.size, j, none⟩ = some (.int .u8 (nth (bytesOf s) j : Nat)) := fun j hj => by rw [Lib.bytesWorld_cell w _ s j hj, bytesOf_getD s j hj]
  go_enter Tryz.func104, Tryz.ntmps104
  go_wp2_with fail
  obtain ⟨w1, hw1⟩ : ∃ w1, w1 = Lib.bytesWorld w 5 s := ⟨_, rfl⟩
  rw [← hw1] at hkb hsz1 hcell ⊢
  clear hw1 hcv
  go_loopw [7, 12] (fun _ t wr => ∃ i g', i ≤ s.size ∧ t = .int .i64 (i : Nat) ∧ (g' = g ∨ w1.heap.size ≤ g') ∧ (∃ c, Bits wr A g' c (bs ++ ((bytesOf s).take i).flatMap (bitsOf 8))) ∧ Kp [A, g] w1 wr) (fun _ t _ => s.size - (intOf t).toNat)
  case atStart => exact ⟨0, g, by omega, rfl, .inl rfl, ⟨c, by simpa using h.kp hkb (by simp) (by simp)⟩, Kp.refl _ _⟩
  case round =>
    obtain ⟨i, g', hi, rfl, hg', ⟨c', hB⟩, hk⟩ := hrel
    have hsz := hk.size
    have hlen : (bs ++ ((bytesOf s).take i).flatMap (bitsOf 8)).length ≤ 9000 := by rw [List.length_append, flat8_length, List.length_take]; omega
    by_cases hlt : i < s.size
    · have hc := (hk.cell (p := ⟨w.heap.size, i, none⟩) (by simp only; omega) (by simp; omega)).trans (hcell i hlt)
      have h256 := bytesOf_lt s i
      go_wp2_with fail
      refine (appendBits_any A g' c' 8 (nth (bytesOf s) i) _ _ hB (by omega) (by omega) (by omega)).mono ?_
      rintro e w2 ⟨g2, rfl, hg2, hB2, hk2⟩
      go_wp2_with fail
      go_roundw
      case rel =>
        refine ⟨i + 1, g2, by omega, by go_num, ?_, ⟨0, ?_⟩, Kp.keepOwn (_S := []) hk hk2 hg'⟩
        · rcases hg2 with rfl | h
          · exact hg'
          · exact .inr (by omega)
        · rw [take_snocN _ _ (by rw [bytesOf_length]; exact hlt), List.flatMap_append, ← List.append_assoc]
          simpa using hB2
      case measure => simp [intOf]; omega
    · have hie : i = s.size := by omega
      subst hie
      rw [List.take_of_length_le (by rw [bytesOf_length]; exact Nat.le_refl _)] at hB
      go_wp2_with fail
      go_ret
      refine ⟨g', rfl, hg'.imp id (fun h => by omega), by obtain ⟨ws, x1, x2, x3, x4, x5⟩ := hB.ex; exact ⟨ws, x1, x2, x3, by omega, x5⟩, (hkb.mono (by simp)).trans hk (by intro i hi _; exact hi)⟩
end Go.Proofs.YtcekbhhpcmhicaaGreatDoor
namespace Go.Proofs.YtcekbhhpcmhicaaGreatDoor
open Go.RowKit Go.QW

def numSeg : List Nat → List Bool
  | a :: b :: c :: r => bitsOf 10 ((a - 48) * 100 + (b - 48) * 10 + (c - 48)) ++ numSeg r
  | [a, b] => bitsOf 7 ((a - 48) * 10 + (b - 48))
  | [a] => bitsOf 4 (a - 48)
  | [] => []
theorem numSeg_len : ∀ (n : Nat) (l : List Nat), l.length ≤ n → (numSeg l).length ≤ 4 * l.length
  | _, [], _ => by simp [numSeg]
  | _, [a], _ => by simp [numSeg, bitsOf_length]
  | _, [a, b], _ => by simp [numSeg, bitsOf_length]
  | 0, a :: b :: c :: r, h => by simp at h
  | n + 1, a :: b :: c :: r, h => by
    have := numSeg_len n r (by simp at h; omega)
    simp only [numSeg, List.length_append, bitsOf_length, List.length_cons]
    omega
theorem drop3 {l : List Nat} {i : Nat} (h : i + 2 < l.length) : l.drop i = nth l i :: nth l (i + 1) :: nth l (i + 2) :: l.drop (i + 3) := by
  rw [List.drop_eq_getElem_cons (by omega), List.drop_eq_getElem_cons (i := i + 1) (by omega), List.drop_eq_getElem_cons (i := i + 1 + 1) (by omega), nth_get (by omega), nth_get (by omega), nth_get (by omega)]
theorem drop2 {l : List Nat} {i : Nat} (h : i + 2 = l.length) : l.drop i = [nth l i, nth l (i + 1)] := by
  rw [List.drop_eq_getElem_cons (by omega), List.drop_eq_getElem_cons (i := i + 1) (by omega), List.drop_of_length_le (by omega), nth_get (by omega), nth_get (by omega)]
theorem drop1 {l : List Nat} {i : Nat} (h : i + 1 = l.length) : l.drop i = [nth l i] := by
  rw [List.drop_eq_getElem_cons (by omega), List.drop_of_length_le (by omega), nth_get (by omega)]

set_option maxHeartbeats 2000000 in
set_option maxRecDepth 100000 in
theorem segN_any (s : ByteArray) (A g c : Nat) (bs : List Bool) (w : World) (h : Bits w A g c bs) (hs : s.size ≤ 1000) (hn : bs.length ≤ 100) (hd : ∀ k, k < s.size → 48 ≤ nth (bytesOf s) k ∧ nth (bytesOf s) k ≤ 57) :
    Calls Tryz.prog 102 #[.string s, .pointer (some ⟨A, 0, none⟩)] w fun e w' => ∃ g', e = .returned (.tuple #[]) ∧ (g' = g ∨ w.heap.size ≤ g') ∧ Bits w' A g' 0 (bs ++ numSeg (bytesOf s)) ∧ Kp [A, g] w w' := by
  obtain ⟨hAl, hgl, hne⟩ := h.lts
  have hsl := bytesOf_length s
  go_enter Tryz.func102, Tryz.ntmps102
  go_wp2_with fail
  go_loopw [5, 6, 7, 8, 9] (fun t _ _ _ _ wr => ∃ i g' acc, i ≤ s.size ∧ t = .int .i64 (i : Nat) ∧ (g' = g ∨ w.heap.size ≤ g') ∧ (∃ c, Bits wr A g' c (bs ++ acc)) ∧ acc ++ numSeg ((bytesOf s).drop i) = numSeg (bytesOf s) ∧ Kp [A, g] w wr) (fun t _ _ _ _ _ => s.size - (intOf t).toNat)
  case atStart => exact ⟨0, g, [], by omega, rfl, .inl rfl, ⟨c, by simpa using h⟩, rfl, Kp.refl _ _⟩
  case round =>
    obtain ⟨i, g', acc, hi, rfl, hg', ⟨c', hB⟩, hacc, hk⟩ := hrel
    have hsz := hk.size
    have hlen : (bs ++ acc).length ≤ 9000 := by
      have := numSeg_len _ (bytesOf s) (Nat.le_refl _)
      rw [← hacc, List.length_append] at this
      rw [List.length_append]; omega
    have HA := Lib.hid hacc
    clear hacc
    by_cases hlt : i < s.size
    · have d0 := hd i hlt
      have x0 := bytesOf_get s i hlt
      by_cases h2 : i + 2 < s.size
      · have d1 := hd (i + 1) (by omega)
        have d2 := hd (i + 2) h2
        have x1 := bytesOf_get s (i + 1) (by omega)
        have x2 := bytesOf_get s (i + 2) h2
        have hdec : decide ((i : Int) + 2 < (s.size : Int)) = true := by simp; omega
        go_wp2_with fail
        have hv : (((nth (bytesOf s) i : Nat) : Int) - 48) * 100 + (((nth (bytesOf s) (i + 1) : Nat) : Int) - 48) * 10 + (((nth (bytesOf s) (i + 2) : Nat) : Int) - 48) = (((nth (bytesOf s) i - 48) * 100 + (nth (bytesOf s) (i + 1) - 48) * 10 + (nth (bytesOf s) (i + 2) - 48) : Nat) : Int) := by omega
        rw [hv]
        refine (appendBits_any A g' c' 10 ((nth (bytesOf s) i - 48) * 100 + (nth (bytesOf s) (i + 1) - 48) * 10 + (nth (bytesOf s) (i + 2) - 48)) _ _ hB (by omega) (by omega) (by omega)).mono ?_
        rintro e w2 ⟨g2, rfl, hg2, hB2, hk2⟩
        clear hv
        go_wp2_with fail
        go_roundw
        case rel =>
          refine ⟨i + 3, g2, acc ++ bitsOf 10 ((nth (bytesOf s) i - 48) * 100 + (nth (bytesOf s) (i + 1) - 48) * 10 + (nth (bytesOf s) (i + 2) - 48)), by omega, by go_num, ?_, ⟨0, ?_⟩, ?_, Kp.keepOwn (_S := []) hk hk2 hg'⟩
          · rcases hg2 with rfl | h
            · exact hg'
            · exact .inr (by omega)
          · rw [← List.append_assoc]; exact hB2
          · rw [← HA.out, drop3 (l := bytesOf s) (i := i) (by omega)]
            simp only [numSeg, List.append_assoc]
        case measure => simp [intOf]; omega
      · have hdec : decide ((i : Int) + 2 < (s.size : Int)) = false := by simp; omega
        by_cases h1 : i + 1 < s.size
        · have d1 := hd (i + 1) h1
          have x1 := bytesOf_get s (i + 1) h1
          have hdec1 : decide ((i : Int) + 1 < (s.size : Int)) = true := by simp; omega
          go_wp2_with fail
          have hv : (((nth (bytesOf s) i : Nat) : Int) - 48) * 10 + (((nth (bytesOf s) (i + 1) : Nat) : Int) - 48) = (((nth (bytesOf s) i - 48) * 10 + (nth (bytesOf s) (i + 1) - 48) : Nat) : Int) := by omega
          rw [hv]
          refine (appendBits_any A g' c' 7 ((nth (bytesOf s) i - 48) * 10 + (nth (bytesOf s) (i + 1) - 48)) _ _ hB (by omega) (by omega) (by omega)).mono ?_
          rintro e w2 ⟨g2, rfl, hg2, hB2, hk2⟩
          clear hv
          go_wp2_with fail
          go_roundw
          case rel =>
            refine ⟨i + 2, g2, acc ++ bitsOf 7 ((nth (bytesOf s) i - 48) * 10 + (nth (bytesOf s) (i + 1) - 48)), by omega, by go_num, ?_, ⟨0, ?_⟩, ?_, Kp.keepOwn (_S := []) hk hk2 hg'⟩
            · rcases hg2 with rfl | h
              · exact hg'
              · exact .inr (by omega)
            · rw [← List.append_assoc]; exact hB2
            · rw [← HA.out, drop2 (l := bytesOf s) (i := i) (by omega), List.drop_of_length_le (i := i + 2) (l := bytesOf s) (by omega)]
              simp only [numSeg, List.append_nil]
          case measure => simp [intOf]; omega
        · have hdec1 : decide ((i : Int) + 1 < (s.size : Int)) = false := by simp; omega
          go_wp2_with fail
          have hv : ((nth (bytesOf s) i : Nat) : Int) - 48 = ((nth (bytesOf s) i - 48 : Nat) : Int) := by omega
          rw [hv]
          refine (appendBits_any A g' c' 4 (nth (bytesOf s) i - 48) _ _ hB (by omega) (by omega) (by omega)).mono ?_
          rintro e w2 ⟨g2, rfl, hg2, hB2, hk2⟩
          clear hv
          go_wp2_with fail
          go_roundw
          case rel =>
            refine ⟨i + 1, g2, acc ++ bitsOf 4 (nth (bytesOf s) i - 48), by omega, by go_num, ?_, ⟨0, ?_⟩, ?_, Kp.keepOwn (_S := []) hk hk2 hg'⟩
            · rcases hg2 with rfl | h
              · exact hg'
              · exact .inr (by omega)
            · rw [← List.append_assoc]; exact hB2
            · rw [← HA.out, drop1 (l := bytesOf s) (i := i) (by omega), List.drop_of_length_le (i := i + 1) (l := bytesOf s) (by omega)]
              simp only [numSeg, List.append_nil]
          case measure => simp [intOf]; omega
    · have hie : i = s.size := by omega
      subst hie
      have hacc := HA.out
      rw [List.drop_of_length_le (by omega), numSeg, List.append_nil] at hacc
      subst hacc
      go_wp2_with fail
      go_end0
      exact ⟨g', rfl, hg', by obtain ⟨ws, y1, y2, y3, y4, y5⟩ := hB.ex; exact ⟨ws, y1, y2, y3, by omega, y5⟩, hk⟩
end Go.Proofs.YtcekbhhpcmhicaaGreatDoor
namespace Go.Proofs.YtcekbhhpcmhicaaGreatDoor
open Go.RowKit Go.QW

def alCode (c : Nat) : Int :=
  if 48 ≤ c ∧ c ≤ 57 then (c : Int) - 48 else if 65 ≤ c ∧ c ≤ 90 then (c : Int) - 55 else if c = 32 then 36 else if c = 36 then 37 else if c = 37 then 38 else if c = 42 then 39 else if c = 43 then 40 else if c = 45 then 41 else if c = 46 then 42 else if c = 47 then 43 else if c = 58 then 44 else -1
def alArr : Array Value := ((List.range 96).map fun c => Value.int .i64 (alCode c)).toArray
theorem alArr_get (c : Nat) (h : c < 96) : alArr[c]? = some (.int .i64 (alCode c)) := by
  unfold alArr
  rw [List.getElem?_toArray, List.getElem?_map, List.getElem?_range h]; rfl
theorem alCode_big (c : Nat) (h : 96 ≤ c) : alCode c = -1 := by
  unfold alCode
  rw [if_neg (by omega), if_neg (by omega), if_neg (by omega), if_neg (by omega), if_neg (by omega), if_neg (by omega), if_neg (by omega), if_neg (by omega), if_neg (by omega), if_neg (by omega), if_neg (by omega)]
theorem alCode_bd (c : Nat) : -1 ≤ alCode c ∧ alCode c ≤ 44 := by
  unfold alCode
  repeat' split
  all_goals omega
theorem Blk.newEq {w : World} {t : TypeId} {cs cs' : Array Value} (h : cs = cs') : Blk (w.alloc (.cells cs t)) w.heap.size t cs' := by subst h; exact Blk.new _ _ _
set_option maxHeartbeats 4000000 in
set_option maxRecDepth 100000 in
theorem altab_any (w : World) :
    Calls Tryz.prog 145 #[] w fun e w' => e = .returned (.slice (some ⟨w.heap.size, 0, none⟩) 96 96) ∧ Blk w' w.heap.size 3 alArr ∧ Below w.heap.size w w' := by
  go_enter Tryz.func145, Tryz.ntmps145
  go_wp2
  go_ret
  refine ⟨rfl, ?_, (Below.refl _ _).alloc (Nat.le_refl _) _⟩
  exact Blk.newEq (by kernel_rfl)
set_option maxRecDepth 100000 in
theorem alcode_any (c : Nat) (w : World) (hc : c < 256) :
    Calls Tryz.prog 97 #[.int .u8 c] w fun e w' => e = .returned (.int .i64 (alCode c)) ∧ Below w.heap.size w w' := by
  go_enter Tryz.func97, Tryz.ntmps97
  go_wp2_with fail
  refine (altab_any w).mono ?_
  rintro e w1 ⟨rfl, hb1, hw1⟩
  have hs1 := hw1.size
  by_cases h : c < 96
  · have hdec : decide ((c : Int) < 96) = true := by simp; omega
    go_wp2_with fail
    refine (altab_any w1).mono ?_
    rintro e w2 ⟨rfl, hb2, hw2⟩
    have hcl := (hb2.cell c).trans (alArr_get c h)
    go_wp2_with fail
    go_ret
    exact ⟨rfl, below_trans' hw1 hw2 hs1⟩
  · have hdec : decide ((c : Int) < 96) = false := by simp; omega
    go_wp2_with fail
    go_ret
    exact ⟨by rw [alCode_big c (by omega)]; rfl, hw1⟩
end Go.Proofs.YtcekbhhpcmhicaaGreatDoor
namespace Go.Proofs.YtcekbhhpcmhicaaGreatDoor
open Go.RowKit Go.QW

/-- alphanumeric: the values of two signs in eleven bits, of a last one in six -/
def alSeg : List Nat → List Bool
  | a :: b :: r => bitsOf 11 ((alCode a).toNat * 45 + (alCode b).toNat) ++ alSeg r
  | [a] => bitsOf 6 (alCode a).toNat
  | [] => []
theorem alSeg_len : ∀ (n : Nat) (l : List Nat), l.length ≤ n → (alSeg l).length ≤ 6 * l.length
  | _, [], _ => by simp [alSeg]
  | _, [a], _ => by simp [alSeg, bitsOf_length]
  | 0, a :: b :: r, h => by simp at h
  | n + 1, a :: b :: r, h => by
    have := alSeg_len n r (by simp at h; omega)
    simp only [alSeg, List.length_append, bitsOf_length, List.length_cons]
    omega
theorem drop2' {l : List Nat} {i : Nat} (h : i + 1 < l.length) : l.drop i = nth l i :: nth l (i + 1) :: l.drop (i + 2) := by
  rw [List.drop_eq_getElem_cons (by omega), List.drop_eq_getElem_cons (i := i + 1) (by omega), nth_get (by omega), nth_get (by omega)]

set_option maxHeartbeats 2000000 in
set_option maxRecDepth 100000 in
theorem segA_any (s : ByteArray) (A g c : Nat) (bs : List Bool) (w : World) (h : Bits w A g c bs) (hs : s.size ≤ 1000) (hn : bs.length ≤ 100) (hd : ∀ k, k < s.size → 0 ≤ alCode (nth (bytesOf s) k)) :
    Calls Tryz.prog 103 #[.string s, .pointer (some ⟨A, 0, none⟩)] w fun e w' => ∃ g', e = .returned .nilIface ∧ (g' = g ∨ w.heap.size ≤ g') ∧ Bits w' A g' 0 (bs ++ alSeg (bytesOf s)) ∧ Kp [A, g] w w' := by
  obtain ⟨hAl, hgl, hne⟩ := h.lts
  have hsl := bytesOf_length s
  go_enter Tryz.func103, Tryz.ntmps103
  go_wp2_with fail
  go_loopw [6, 7, 8] (fun t _ _ wr => ∃ i g' acc, i ≤ s.size ∧ t = .int .i64 (i : Nat) ∧ (g' = g ∨ w.heap.size ≤ g') ∧ (∃ c, Bits wr A g' c (bs ++ acc)) ∧ acc ++ alSeg ((bytesOf s).drop i) = alSeg (bytesOf s) ∧ Kp [A, g] w wr) (fun t _ _ _ => s.size - (intOf t).toNat)
  case atStart => exact ⟨0, g, [], by omega, rfl, .inl rfl, ⟨c, by simpa using h⟩, rfl, Kp.refl _ _⟩
  case round =>
    obtain ⟨i, g', acc, hi, rfl, hg', ⟨c', hB⟩, hacc, hk⟩ := hrel
    have hsz := hk.size
    have hlen : (bs ++ acc).length ≤ 9000 := by
      have := alSeg_len _ (bytesOf s) (Nat.le_refl _)
      rw [← hacc, List.length_append] at this
      rw [List.length_append]; omega
    have HA := Lib.hid hacc
    clear hacc
    by_cases hlt : i < s.size
    · have x0 := bytesOf_get s i hlt
      have l0 := bytesOf_lt s i
      obtain ⟨a, ha⟩ : ∃ a : Nat, alCode (nth (bytesOf s) i) = (a : Int) := ⟨(alCode (nth (bytesOf s) i)).toNat, by have := hd i hlt; omega⟩
      have ha2 : a ≤ 44 := by have := (alCode_bd (nth (bytesOf s) i)).2; omega
      have hae : ((a : Int) == -1) = false := by rw [beq_eq_false_iff_ne]; omega
      go_wp2_with fail
      refine (alcode_any _ wr l0).mono ?_
      rintro e w1 ⟨rfl, hb1⟩
      rw [ha]
      have hs1 := hb1.size
      by_cases h1 : i + 1 < s.size
      · have x1 := bytesOf_get s (i + 1) h1
        have l1 := bytesOf_lt s (i + 1)
        obtain ⟨b, hb⟩ : ∃ b : Nat, alCode (nth (bytesOf s) (i + 1)) = (b : Int) := ⟨(alCode (nth (bytesOf s) (i + 1))).toNat, by have := hd (i + 1) h1; omega⟩
        have hb2 : b ≤ 44 := by have := (alCode_bd (nth (bytesOf s) (i + 1))).2; omega
        have hbe : ((b : Int) == -1) = false := by rw [beq_eq_false_iff_ne]; omega
        have hdec : decide ((i : Int) + 1 < (s.size : Int)) = true := by simp; omega
        have HAB := Lib.hid (And.intro ha hb)
        clear ha hb
        go_wp2_with fail
        refine (alcode_any _ w1 l1).mono ?_
        rintro e w2 ⟨rfl, hbb2⟩
        rw [HAB.out.2]
        have hs2 := hbb2.size
        have hB2' := (hB.kp (Kp.of_below hb1 : Kp [] wr w1) (by simp) (by simp)).kp (Kp.of_below hbb2 : Kp [] w1 w2) (by simp) (by simp)
        go_wp2_with fail
        have hv : (a : Int) * 45 + (b : Int) = ((a * 45 + b : Nat) : Int) := by omega
        rw [hv]
        refine (appendBits_any A g' c' 11 (a * 45 + b) _ _ hB2' (by omega) (by omega) (by omega)).mono ?_
        rintro e w3 ⟨g2, rfl, hg2, hB2, hk2⟩
        clear hv
        go_wp2_with fail
        go_roundw
        case rel =>
          refine ⟨i + 2, g2, acc ++ bitsOf 11 (a * 45 + b), by omega, by go_num, ?_, ⟨0, ?_⟩, ?_, Kp.keepOwn (_S := []) ((hk.trans (Kp.of_below hb1 : Kp [] wr w1) (by simp)).trans (Kp.of_below hbb2 : Kp [] w1 w2) (by simp)) hk2 hg'⟩
          · rcases hg2 with rfl | h
            · exact hg'
            · exact .inr (by omega)
          · rw [← List.append_assoc]; exact hB2
          · rw [← HA.out, drop2' (l := bytesOf s) (i := i) (by omega)]
            simp only [alSeg, List.append_assoc, HAB.out.1, HAB.out.2, Int.toNat_natCast]
        case measure => simp [intOf]; omega
      · have hdec : decide ((i : Int) + 1 < (s.size : Int)) = false := by simp; omega
        have HAB := Lib.hid ha
        clear ha
        have hB2' := (hB.kp (Kp.of_below hb1 : Kp [] wr w1) (by simp) (by simp))
        go_wp2_with fail
        refine (appendBits_any A g' c' 6 a _ _ hB2' (by omega) (by omega) (by omega)).mono ?_
        rintro e w3 ⟨g2, rfl, hg2, hB2, hk2⟩
        go_wp2_with fail
        go_roundw
        case rel =>
          refine ⟨i + 1, g2, acc ++ bitsOf 6 a, by omega, by go_num, ?_, ⟨0, ?_⟩, ?_, Kp.keepOwn (_S := []) (hk.trans (Kp.of_below hb1 : Kp [] wr w1) (by simp)) hk2 hg'⟩
          · rcases hg2 with rfl | h
            · exact hg'
            · exact .inr (by omega)
          · rw [← List.append_assoc]; exact hB2
          · rw [← HA.out, drop1 (l := bytesOf s) (i := i) (by omega), List.drop_of_length_le (i := i + 1) (l := bytesOf s) (by omega)]
            simp only [alSeg, List.append_nil, HAB.out, Int.toNat_natCast]
        case measure => simp [intOf]; omega
    · have hie : i = s.size := by omega
      subst hie
      have hacc := HA.out
      rw [List.drop_of_length_le (by omega), alSeg, List.append_nil] at hacc
      subst hacc
      go_wp2_with fail
      go_ret
      exact ⟨g', rfl, hg', by obtain ⟨ws, y1, y2, y3, y4, y5⟩ := hB.ex; exact ⟨ws, y1, y2, y3, by omega, y5⟩, hk⟩
end Go.Proofs.YtcekbhhpcmhicaaGreatDoor
namespace Go.Proofs.YtcekbhhpcmhicaaGreatDoor
open Go.RowKit Go.QW

def isDig (c : Nat) : Bool := decide (48 ≤ c) && decide (c ≤ 57)
/-- a byte that alphanumeric mode does not know -/
def isOdd (c : Nat) : Bool := !isDig c && (alCode c == -1)
def modeOf (l : List Nat) : Nat := if l.any isOdd = true then 4 else if l.any (fun c => !isDig c) = true then 2 else if l.any isDig = true then 1 else 4

set_option maxHeartbeats 2000000 in
set_option maxRecDepth 100000 in
theorem mode_any (s : ByteArray) (w : World) (hs : s.size ≤ 1000) :
    Calls Tryz.prog 43 #[.string s] w fun e w' => e = .returned (.int .i64 (modeOf (bytesOf s) : Nat)) ∧ Below w.heap.size w w' := by
  have hsl := bytesOf_length s
  go_enter Tryz.func43, Tryz.ntmps43
  go_wp2_with fail
  go_loopw [3, 4, 5, 6] (fun t3 t4 t _ wr => ∃ i : Nat, i ≤ s.size ∧ t = .int .i64 (i : Nat) ∧ t3 = .bool (((bytesOf s).take i).any isDig) ∧ t4 = .bool (((bytesOf s).take i).any (fun c => !isDig c)) ∧ ((bytesOf s).take i).any isOdd = false ∧ Below w.heap.size w wr) (fun _ _ t _ _ => s.size - (intOf t).toNat)
  case atStart => exact ⟨0, by omega, rfl, rfl, rfl, rfl, Below.refl _ _⟩
  case round =>
    obtain ⟨i, hi, rfl, rfl, rfl, hodd, hw⟩ := hrel
    have hsz := hw.size
    have HO := Lib.hid hodd
    clear hodd
    by_cases hlt : i < s.size
    · have x0 := bytesOf_get s i hlt
      have l0 := bytesOf_lt s i
      have htk := take_snocN (bytesOf s) i (by omega)
      obtain ⟨c, hc⟩ : ∃ c, c = nth (bytesOf s) i := ⟨_, rfl⟩
      rw [← hc] at x0 l0 htk
      have e1 : ((bytesOf s).take (i + 1)).any isDig = (((bytesOf s).take i).any isDig || isDig c) := by rw [htk]; simp
      have e2 : ((bytesOf s).take (i + 1)).any (fun c => !isDig c) = (((bytesOf s).take i).any (fun c => !isDig c) || !isDig c) := by rw [htk]; simp
      have e3 : ((bytesOf s).take (i + 1)).any isOdd = isOdd c := by rw [htk, List.any_append, HO.out]; simp
      have HE := Lib.hid (And.intro e1 (And.intro e2 e3))
      have HC := Lib.hid hc
      clear e1 e2 e3 hc htk
      obtain ⟨p, hp⟩ : ∃ p, p = ((bytesOf s).take i).any isDig := ⟨_, rfl⟩
      obtain ⟨q, hq⟩ : ∃ q, q = ((bytesOf s).take i).any (fun c => !isDig c) := ⟨_, rfl⟩
      rw [← hp, ← hq] at HE ⊢
      clear hp hq
      by_cases h1 : 48 ≤ c ∧ c ≤ 57
      · have d1 : decide ((48 : Int) ≤ (c : Int)) = true := by simp; omega
        have d2 : decide ((c : Int) ≤ 57) = true := by simp; omega
        have hdg : isDig c = true := by simp [isDig]; omega
        have hod : isOdd c = false := by simp [isOdd, hdg]
        rw [hdg, hod] at HE
        clear hdg hod
        go_wp2_with fail
        go_roundw
        case rel => exact ⟨i + 1, by omega, by go_num, by rw [HE.out.1, Bool.or_true], by rw [HE.out.2.1]; simp, HE.out.2.2, hw⟩
        case measure => simp [intOf]; omega
      · have hdg : isDig c = false := by simp [isDig]; omega
        rw [hdg] at HE
        have hd12 : decide ((48 : Int) ≤ (c : Int)) = false ∨ (decide ((48 : Int) ≤ (c : Int)) = true ∧ decide ((c : Int) ≤ 57) = false) := by
          by_cases h : 48 ≤ c
          · right; exact ⟨by simp; omega, by simp; omega⟩
          · left; simp; omega
        have hodd : isOdd c = (alCode c == -1) := by simp [isOdd, hdg]
        rw [hodd] at HE
        clear hdg hodd
        cases ha : (alCode c == -1) with
        | false =>
          have hne : (alCode c != -1) = true := by rw [bne, ha]; rfl
          rw [ha] at HE
          rcases hd12 with d1 | ⟨d1, d2⟩
          all_goals
            go_wp2_with fail
            refine (alcode_any _ wr l0).mono ?_
            rintro e w1 ⟨rfl, hb1⟩
            go_wp2_with fail
            go_roundw
            case rel => exact ⟨i + 1, by omega, by go_num, by rw [HE.out.1]; simp, by rw [HE.out.2.1]; simp, HE.out.2.2, below_trans' hw hb1 hsz⟩
            case measure => simp [intOf]; omega
        | true =>
          have hne : (alCode c != -1) = false := by rw [bne, ha]; rfl
          rw [ha] at HE
          have hm : modeOf (bytesOf s) = 4 := by
            have h3 := HE.out.2.2
            unfold modeOf
            rw [if_pos]
            rw [List.any_eq_true] at h3 ⊢
            obtain ⟨x, hx, hxo⟩ := h3
            exact ⟨x, List.mem_of_mem_take hx, hxo⟩
          have HM := Lib.hid hm
          clear hm
          rcases hd12 with d1 | ⟨d1, d2⟩
          all_goals
            go_wp2_with fail
            refine (alcode_any _ wr l0).mono ?_
            rintro e w1 ⟨rfl, hb1⟩
            go_wp2_with fail
            go_ret
            exact ⟨by rw [HM.out]; rfl, below_trans' hw hb1 hsz⟩
    · have hie : i = s.size := by omega
      subst hie
      rw [List.take_of_length_le (by omega)] at HO ⊢
      have hm : modeOf (bytesOf s) = if (bytesOf s).any (fun c => !isDig c) = true then 2 else if (bytesOf s).any isDig = true then 1 else 4 := by unfold modeOf; rw [HO.out]; simp
      have HM := Lib.hid hm
      clear hm
      cases hq : (bytesOf s).any (fun c => !isDig c) with
      | true =>
        rw [hq] at HM
        clear hq
        go_wp2_with fail
        go_ret
        exact ⟨by rw [HM.out]; rfl, hw⟩
      | false =>
        rw [hq] at HM
        clear hq
        cases hp : (bytesOf s).any isDig with
        | true =>
          rw [hp] at HM
          clear hp
          go_wp2_with fail
          go_ret
          exact ⟨by rw [HM.out]; rfl, hw⟩
        | false =>
          rw [hp] at HM
          clear hp
          go_wp2_with fail
          go_ret
          exact ⟨by rw [HM.out]; rfl, hw⟩
end Go.Proofs.YtcekbhhpcmhicaaGreatDoor
namespace Go.Proofs.YtcekbhhpcmhicaaGreatDoor
open Go.RowKit Go.QW Go.QGF Go.QV

/-- bits of the field of the length, at mode m and version v -/
def ccBits (m v : Nat) : Nat :=
  if m = 1 then (if v ≤ 9 then 10 else if v ≤ 26 then 12 else 14) else if m = 2 then (if v ≤ 9 then 9 else if v ≤ 26 then 11 else 13) else (if v ≤ 9 then 8 else 16)
theorem ccBits_le (m v : Nat) : ccBits m v ≤ 16 ∧ 8 ≤ ccBits m v := by
  unfold ccBits
  repeat' split
  all_goals omega
set_option maxHeartbeats 2000000 in
set_option maxRecDepth 100000 in
theorem cc_any (m A v : Nat) (w : World) (hV : Ver w A v) (hm : m = 1 ∨ m = 2 ∨ m = 4) (hv : v ≤ 40) :
    Calls Tryz.prog 110 #[.int .i64 m, .pointer (some ⟨A, 0, none⟩)] w fun e w' => e = .returned (.int .i64 (ccBits m v : Nat)) ∧ Below w.heap.size w w' := by
  have hcase : (v ≤ 9 ∧ decide ((v : Int) ≤ 9) = true) ∨ (¬ v ≤ 9 ∧ v ≤ 26 ∧ decide ((v : Int) ≤ 9) = false ∧ decide ((v : Int) ≤ 26) = true) ∨ (¬ v ≤ 9 ∧ ¬ v ≤ 26 ∧ decide ((v : Int) ≤ 9) = false ∧ decide ((v : Int) ≤ 26) = false) := by
    simp only [decide_eq_true_eq, decide_eq_false_iff_not]
    omega
  have hcc : ∀ m, ccBits m v = if m = 1 then (if v ≤ 9 then 10 else if v ≤ 26 then 12 else 14) else if m = 2 then (if v ≤ 9 then 9 else if v ≤ 26 then 11 else 13) else (if v ≤ 9 then 8 else 16) := fun _ => rfl
  have HC := Lib.hid hcc
  clear hcc
  rcases hm with rfl | rfl | rfl
  all_goals rcases hcase with ⟨h1, d1⟩ | ⟨h1, h2, d1, d2⟩ | ⟨h1, h2, d1, d2⟩
  all_goals
    go_enter Tryz.func110, Tryz.ntmps110
    go_wp2_with fail
    refine (vernum_any A v w hV).mono ?_
    rintro e w1 ⟨rfl, rfl⟩
    go_wp2
    go_ret
    refine ⟨?_, (Below.refl _ _).alloc (Nat.le_refl _) _⟩
    rw [HC.out]
    first
      | (rw [if_pos rfl, if_pos h1]; rfl)
      | (rw [if_pos rfl, if_neg h1, if_pos h2]; rfl)
      | (rw [if_pos rfl, if_neg h1, if_neg h2]; rfl)
      | (rw [if_neg (by decide), if_pos rfl, if_pos h1]; rfl)
      | (rw [if_neg (by decide), if_pos rfl, if_neg h1, if_pos h2]; rfl)
      | (rw [if_neg (by decide), if_pos rfl, if_neg h1, if_neg h2]; rfl)
      | (rw [if_neg (by decide), if_neg (by decide), if_pos h1]; rfl)
      | (rw [if_neg (by decide), if_neg (by decide), if_neg h1]; rfl)
end Go.Proofs.YtcekbhhpcmhicaaGreatDoor
namespace Go.Proofs.YtcekbhhpcmhicaaGreatDoor
open Go.RowKit Go.QW Go.QGF Go.QV

def lv (v l : Nat) : Nat × List (Nat × Nat) := (levels v).getD (lvIx l) (0, [])
/-- data bytes of version v at level l -/
def dataB (v l : Nat) : Nat := total v - (lv v l).1 * numB (lv v l).2
def lvOk (v l : Nat) : Bool := (lv v l).2.all (fun x => decide (x.1 ≤ 100) && decide (x.2 ≤ 200) && decide (1 ≤ x.1) && decide (1 ≤ x.2)) && decide ((lv v l).2.length ≤ 2) && decide (1 ≤ (lv v l).2.length) && decide ((lv v l).1 ≤ 30) && decide (1 ≤ (lv v l).1) && decide (total v ≤ 4000) && decide ((lv v l).1 * numB (lv v l).2 ≤ total v) && decide (sumB (lv v l).1 (lv v l).2 = total v)
theorem lvOk_all : ∀ v : Fin 41, ∀ l : Fin 4, 1 ≤ v.val → lvOk v.val l.val = true := by decide +kernel
structure LvOk (v l : Nat) : Prop where
  cnt : ∀ x, x ∈ (lv v l).2 → x.1 ≤ 100
  all : ∀ x, x ∈ (lv v l).2 → x.1 ≤ 100 ∧ x.2 ≤ 200 ∧ 1 ≤ x.1 ∧ 1 ≤ x.2
  len : (lv v l).2.length ≤ 2
  len1 : 1 ≤ (lv v l).2.length
  ec : (lv v l).1 ≤ 30
  ec1 : 1 ≤ (lv v l).1
  tot : total v ≤ 4000
  fits : (lv v l).1 * numB (lv v l).2 ≤ total v
  sum : sumB (lv v l).1 (lv v l).2 = total v
theorem lv_ok (v l : Nat) (h1 : 1 ≤ v) (h2 : v ≤ 40) (hl : l ≤ 3) : LvOk v l := by
  have := lvOk_all ⟨v, by omega⟩ ⟨l, by omega⟩ h1
  simp only [lvOk, Bool.and_eq_true, decide_eq_true_eq, List.all_eq_true] at this
  obtain ⟨⟨⟨⟨⟨⟨⟨a, b⟩, c⟩, d⟩, e⟩, f⟩, g⟩, i⟩ := this
  exact ⟨fun x hx => (a x hx).1.1.1, fun x hx => ⟨(a x hx).1.1.1, (a x hx).1.1.2, (a x hx).1.2, (a x hx).2⟩, b, c, d, e, f, g, i⟩

set_option maxHeartbeats 2000000 in
set_option maxRecDepth 100000 in
theorem fit_any (n A v l : Nat) (w : World) (hV : Ver w A v) (h1 : 1 ≤ v) (h2 : v ≤ 40) (hl : l ≤ 3) (hn : n ≤ 100000) :
    Calls Tryz.prog 52 #[.int .i64 n, .pointer (some ⟨A, 0, none⟩), .int .i64 l] w fun e w' => e = .returned (.bool (decide ((n + 7) / 8 ≤ dataB v l))) ∧ Below w.heap.size w w' := by
  have ok := lv_ok v l h1 h2 hl
  have hdb : dataB v l = total v - (lv v l).1 * numB (lv v l).2 := rfl
  have hfit := ok.fits
  have htot := ok.tot
  go_enter Tryz.func52, Tryz.ntmps52
  go_wp2_with fail
  refine (vertot_any A v w hV).mono ?_
  rintro e w1 ⟨rfl, rfl⟩
  go_wp2_with fail
  refine (ecfor_any A v l w hV hl).mono ?_
  rintro e w1 ⟨ge, o, rfl, hE, rfl⟩
  go_wp2_with fail
  refine (totec_any ge o _ w hE ok.cnt (by have := ok.len; show (lv v l).2.length ≤ 4; omega) (by have := ok.ec; show (lv v l).1 ≤ 100; omega)).mono ?_
  rintro e w1 ⟨rfl, hb⟩
  obtain ⟨m, hm⟩ : ∃ m, m = ((levels v).getD (lvIx l) (0, [])).1 * numB ((levels v).getD (lvIx l) (0, [])).2 := ⟨_, rfl⟩
  have hm' : m = (lv v l).1 * numB (lv v l).2 := hm
  rw [← hm]
  rw [← hm'] at hdb hfit
  obtain ⟨d, hd⟩ : ∃ d, d = dataB v l := ⟨_, rfl⟩
  rw [← hd] at hdb
  have HDD := Lib.hid hd
  obtain ⟨t, ht⟩ : ∃ t, t = total v := ⟨_, rfl⟩
  rw [← ht] at hdb hfit htot ⊢
  have hsub : (t : Int) - (m : Int) = (d : Int) := by omega
  have hdec : decide (((n : Int) + 7) / 8 ≤ (d : Int)) = decide ((n + 7) / 8 ≤ d) := by
    apply decide_eq_decide.2
    omega
  have hdb' : d ≤ 4000 := by omega
  have hml : m ≤ 4000 := by omega
  have HD := Lib.hid hdec
  clear hm hm' hd ht hdb ok hdec
  go_wp2_with fail
  go_ret
  refine ⟨?_, hb⟩
  rw [← HDD.out, ← HD.out]
  rfl
end Go.Proofs.YtcekbhhpcmhicaaGreatDoor
namespace Go.Proofs.YtcekbhhpcmhicaaGreatDoor
open Go.RowKit Go.QW Go.QGF Go.QV

set_option maxHeartbeats 2000000 in
set_option maxRecDepth 100000 in
theorem need_any (m A v H g1 c1 D g2 c2 : Nat) (hb db : List Bool) (w : World) (hV : Ver w A v) (hH : Bits w H g1 c1 hb) (hD : Bits w D g2 c2 db) (hm : m = 1 ∨ m = 2 ∨ m = 4) (hv : v ≤ 40) (h1 : hb.length ≤ 1000) (h2 : db.length ≤ 20000) :
    Calls Tryz.prog 51 #[.int .i64 m, .pointer (some ⟨H, 0, none⟩), .pointer (some ⟨D, 0, none⟩), .pointer (some ⟨A, 0, none⟩)] w fun e w' => e = .returned (.int .i64 (hb.length + ccBits m v + db.length : Nat)) ∧ Below w.heap.size w w' := by
  have hcc := ccBits_le m v
  go_enter Tryz.func51, Tryz.ntmps51
  go_wp2_with fail
  refine (size_any H g1 c1 hb w hH).mono ?_
  rintro e w1 ⟨rfl, rfl⟩
  go_wp2_with fail
  refine (cc_any m A v w hV hm hv).mono ?_
  rintro e w1 ⟨rfl, hb1⟩
  have hD1 := hD.kp (Kp.of_below hb1 : Kp [] w w1) (by simp) (by simp)
  go_wp2_with fail
  refine (size_any D g2 c2 db w1 hD1).mono ?_
  rintro e w2 ⟨rfl, rfl⟩
  go_wp2_with fail
  go_ret
  exact ⟨ret_int (by omega), hb1⟩

set_option maxHeartbeats 2000000 in
set_option maxRecDepth 100000 in
theorem choose_any (n p l : Nat) (w : World) (hl : l ≤ 3) (hn : n ≤ 100000) (h1 : 1 ≤ p) (h2 : p ≤ 27) (hp : (n + 7) / 8 ≤ dataB p l) (hq : ∀ v, 1 ≤ v → v < p → ¬ (n + 7) / 8 ≤ dataB v l) :
    Calls Tryz.prog 111 #[.int .i64 n, .int .i64 l] w fun e w' => ∃ A, e = .returned (.tuple #[.pointer (some ⟨A, 0, none⟩), .nilIface]) ∧ Ver w' A p ∧ Below w.heap.size w w' ∧ w.heap.size ≤ A := by
  have HQ := Lib.hid hq
  have HP := Lib.hid hp
  clear hq hp
  go_enter Tryz.func111, Tryz.ntmps111
  go_wp2_with fail
  go_loopw [6, 7, 8] (fun t _ _ wr => ∃ v : Nat, 1 ≤ v ∧ v ≤ p ∧ t = .int .i64 (v : Nat) ∧ Below w.heap.size w wr) (fun t _ _ _ => 100 - (intOf t).toNat)
  case atStart => exact ⟨1, by omega, by omega, rfl, Below.refl _ _⟩
  case round =>
    obtain ⟨v, hv1, hv2, rfl, hw⟩ := hrel
    have hsz := hw.size
    have hd40 : decide ((v : Int) ≤ 40) = true := by simp; omega
    go_wp2_with fail
    refine (getver_any v hv1 (by omega) wr).mono ?_
    rintro e w1 ⟨A, rfl, hA, hb1, hA1⟩
    have hs1 := hb1.size
    go_wp2_with fail
    refine (fit_any n A v l w1 hA hv1 (by omega) hl hn).mono ?_
    rintro e w2 ⟨rfl, hb2⟩
    have hw2 := below_trans' (below_trans' hw hb1 hsz) hb2 (by omega)
    by_cases hvp : v = p
    · subst hvp
      have hf : decide ((n + 7) / 8 ≤ dataB v l) = true := decide_eq_true HP.out
      rw [hf]
      clear hf
      go_wp2_with fail
      go_ret2
      exact ⟨A, rfl, hA.below hb2, hw2, by omega⟩
    · have hf : decide ((n + 7) / 8 ≤ dataB v l) = false := decide_eq_false (HQ.out v hv1 (by omega))
      rw [hf]
      clear hf
      go_wp2_with fail
      go_roundw
      case rel => exact ⟨v + 1, by omega, by omega, by go_num, hw2⟩
      case measure => simp [intOf]; omega

set_option maxHeartbeats 2000000 in
set_option maxRecDepth 100000 in
theorem recommend_any (m l p q H g1 c1 D g2 c2 : Nat) (hb db : List Bool) (w : World) (hH : Bits w H g1 c1 hb) (hD : Bits w D g2 c2 db) (hm : m = 1 ∨ m = 2 ∨ m = 4) (hl : l ≤ 3) (h1 : hb.length ≤ 1000) (h2 : db.length ≤ 20000)
    (p1 : 1 ≤ p) (p2 : p ≤ 27) (hp : (hb.length + ccBits m 1 + db.length + 7) / 8 ≤ dataB p l) (hp' : ∀ v, 1 ≤ v → v < p → ¬ (hb.length + ccBits m 1 + db.length + 7) / 8 ≤ dataB v l)
    (q1 : 1 ≤ q) (q2 : q ≤ 27) (hq : (hb.length + ccBits m p + db.length + 7) / 8 ≤ dataB q l) (hq' : ∀ v, 1 ≤ v → v < q → ¬ (hb.length + ccBits m p + db.length + 7) / 8 ≤ dataB v l) :
    Calls Tryz.prog 53 #[.int .i64 l, .int .i64 m, .pointer (some ⟨H, 0, none⟩), .pointer (some ⟨D, 0, none⟩)] w fun e w' => ∃ A, e = .returned (.tuple #[.pointer (some ⟨A, 0, none⟩), .nilIface]) ∧ Ver w' A q ∧ Below w.heap.size w w' ∧ w.heap.size ≤ A := by
  have hcc1 := ccBits_le m 1
  have hccp := ccBits_le m p
  have HP := Lib.hid (And.intro hp hp')
  have HQ := Lib.hid (And.intro hq hq')
  clear hp hp' hq hq'
  go_enter Tryz.func53, Tryz.ntmps53
  go_wp2_with fail
  refine (getver_any 1 (by omega) (by omega) w).mono ?_
  rintro e w1 ⟨A1, rfl, hA1, hb1, hs1⟩
  have hz1 := hb1.size
  have hk1 : Kp [] w w1 := Kp.of_below hb1
  go_wp2_with fail
  refine (need_any m A1 1 H g1 c1 D g2 c2 hb db w1 hA1 (hH.kp hk1 (by simp) (by simp)) (hD.kp hk1 (by simp) (by simp)) hm (by omega) h1 h2).mono ?_
  rintro e w2 ⟨rfl, hb2⟩
  have hz2 := hb2.size
  have hk2 : Kp [] w w2 := hk1.trans (Kp.of_below hb2 : Kp [] w1 w2) (by simp)
  go_wp2_with fail
  refine (choose_any _ p l w2 hl (by omega) p1 p2 HP.out.1 HP.out.2).mono ?_
  rintro e w3 ⟨A3, rfl, hA3, hb3, hs3⟩
  have hz3 := hb3.size
  have hk3 : Kp [] w w3 := hk2.trans (Kp.of_below hb3 : Kp [] w2 w3) (by simp)
  go_wp2_with fail
  refine (need_any m A3 p H g1 c1 D g2 c2 hb db w3 hA3 (hH.kp hk3 (by simp) (by simp)) (hD.kp hk3 (by simp) (by simp)) hm (by omega) h1 h2).mono ?_
  rintro e w4 ⟨rfl, hb4⟩
  have hz4 := hb4.size
  have hk4 : Kp [] w w4 := hk3.trans (Kp.of_below hb4 : Kp [] w3 w4) (by simp)
  go_wp2_with fail
  refine (choose_any _ q l w4 hl (by omega) q1 q2 HQ.out.1 HQ.out.2).mono ?_
  rintro e w5 ⟨A5, rfl, hA5, hb5, hs5⟩
  have hk5 : Kp [] w w5 := hk4.trans (Kp.of_below hb5 : Kp [] w4 w5) (by simp)
  go_wp2_with fail
  go_ret2
  exact ⟨A5, rfl, hA5, hk5.below, by omega⟩
end Go.Proofs.YtcekbhhpcmhicaaGreatDoor
namespace Go.Proofs.YtcekbhhpcmhicaaGreatDoor
open Go.RowKit Go.QW Go.QGF Go.QV

set_option maxRecDepth 100000 in
theorem modeInfo_any (m A g c : Nat) (bs : List Bool) (w : World) (h : Bits w A g c bs) (hm : m ≤ 15) (hn : bs.length ≤ 10000) :
    Calls Tryz.prog 46 #[.int .i64 m, .pointer (some ⟨A, 0, none⟩)] w fun e w' => ∃ g', e = .returned (.tuple #[]) ∧ (g' = g ∨ w.heap.size ≤ g') ∧ Bits w' A g' 0 (bs ++ bitsOf 4 m) ∧ Kp [A, g] w w' := by
  go_enter Tryz.func46, Tryz.ntmps46
  go_wp2_with fail
  first
    | (go_at_call 23; go_in)
    | skip
  go_wp2_with fail
  refine (appendBits_any A g c 4 m bs _ h (by omega) (by omega) (by omega)).mono ?_
  rintro e w1 ⟨g', rfl, hg, hB, hk⟩
  go_wp2_with fail
  go_end0
  exact ⟨g', rfl, hg, hB, hk⟩

set_option maxHeartbeats 2000000 in
set_option maxRecDepth 100000 in
theorem lenInfo_any (n A v m B g c : Nat) (bs : List Bool) (w : World) (h : Bits w B g c bs) (hV : Ver w A v) (hm : m = 1 ∨ m = 2 ∨ m = 4) (hv : v ≤ 40) (hn : n < 2 ^ ccBits m v) (hl : bs.length ≤ 10000) :
    Calls Tryz.prog 56 #[.int .i64 n, .pointer (some ⟨A, 0, none⟩), .int .i64 m, .pointer (some ⟨B, 0, none⟩)] w fun e w' => ∃ g', e = .returned .nilIface ∧ (g' = g ∨ w.heap.size ≤ g') ∧ Bits w' B g' 0 (bs ++ bitsOf (ccBits m v) n) ∧ Kp [B, g] w w' := by
  have hcc := ccBits_le m v
  go_enter Tryz.func56, Tryz.ntmps56
  go_wp2_with fail
  refine (cc_any m A v w hV hm hv).mono ?_
  rintro e w1 ⟨rfl, hb1⟩
  have hs1 := hb1.size
  have hk1 : Kp [] w w1 := Kp.of_below hb1
  have hB1 := h.kp hk1 (by simp) (by simp)
  obtain ⟨k, hk⟩ : ∃ k, k = ccBits m v := ⟨_, rfl⟩
  rw [← hk] at hcc hn
  have h2 : 2 ^ k ≤ 2 ^ 16 := Nat.pow_le_pow_right (by decide) hcc.1
  have e1 : wrap64 ((2 : Int) ^ k) = ((2 ^ k : Nat) : Int) := by
    rw [show ((2 : Int)) ^ k = ((2 ^ k : Nat) : Int) by rw [Int.natCast_pow]; rfl]
    generalize (2 : Nat) ^ k = p at h2 ⊢
    unfold wrap64
    omega
  have hd : decide (wrap64 ((2 : Int) ^ k) ≤ (n : Int)) = false := by rw [e1]; simp only [decide_eq_false_iff_not]; omega
  have hnb : n < 65536 := by omega
  have HK := Lib.hid hk
  rw [← hk]
  clear e1 hk h2 hn
  go_wp2_with fail
  refine (appendBits_any B g c k n bs _ hB1 (by omega) (by omega) (by omega)).mono ?_
  rintro e w2 ⟨g', rfl, hg, hB, hk2⟩
  clear hd
  go_wp2_with fail
  go_ret
  rw [← HK.out]
  exact ⟨g', rfl, hg.imp id (fun h => by omega), hB, (hk1.mono (by simp)).trans hk2 (by intro i hi _; exact hi)⟩

/-- the bits of the text in mode m -/
def segOf (m : Nat) (l : List Nat) : List Bool := if m = 1 then numSeg l else if m = 2 then alSeg l else l.flatMap (bitsOf 8)
theorem mode_num {l : List Nat} (h : modeOf l = 1) : ∀ k, k < l.length → 48 ≤ nth l k ∧ nth l k ≤ 57 := by
  intro k hk
  unfold modeOf at h
  split at h
  · cases h
  · split at h
    · cases h
    · rename_i h2
      rw [List.any_eq_true] at h2
      have hm : nth l k ∈ l := by rw [nth_get hk]; exact List.getElem_mem hk
      have : ¬ (!isDig (nth l k)) = true := fun hc => h2 ⟨_, hm, hc⟩
      simp [isDig] at this
      exact this
theorem mode_al {l : List Nat} (h : modeOf l = 2) : ∀ k, k < l.length → 0 ≤ alCode (nth l k) := by
  intro k hk
  unfold modeOf at h
  split at h
  · cases h
  · rename_i h1
    rw [List.any_eq_true] at h1
    have hm : nth l k ∈ l := by rw [nth_get hk]; exact List.getElem_mem hk
    have h2 : ¬ isOdd (nth l k) = true := fun hc => h1 ⟨_, hm, hc⟩
    have h3 := (alCode_bd (nth l k)).1
    by_cases hd : isDig (nth l k) = true
    · simp [isDig] at hd
      unfold alCode
      rw [if_pos hd]
      omega
    · simp only [isOdd, Bool.and_eq_true, Bool.not_eq_true', beq_iff_eq, not_and] at h2
      have := h2 (by simpa using hd)
      omega
theorem mode_in (l : List Nat) : modeOf l = 1 ∨ modeOf l = 2 ∨ modeOf l = 4 := by
  unfold modeOf
  repeat' split
  all_goals omega

set_option maxHeartbeats 2000000 in
set_option maxRecDepth 100000 in
theorem appendBytes_any (s : ByteArray) (A g c : Nat) (bs : List Bool) (w : World) (h : Bits w A g c bs) (hs : s.size ≤ 1000) (hn : bs.length ≤ 100) :
    Calls Tryz.prog 47 #[.string s, .int .i64 (modeOf (bytesOf s) : Nat), .pointer (some ⟨A, 0, none⟩)] w fun e w' => ∃ g', e = .returned .nilIface ∧ (g' = g ∨ w.heap.size ≤ g') ∧ Bits w' A g' 0 (bs ++ segOf (modeOf (bytesOf s)) (bytesOf s)) ∧ Kp [A, g] w w' := by
  have hsl := bytesOf_length s
  have hn1 := fun h k (hk : k < s.size) => mode_num (l := bytesOf s) h k (by omega)
  have ha1 := fun h k (hk : k < s.size) => mode_al (l := bytesOf s) h k (by omega)
  have hin := mode_in (bytesOf s)
  obtain ⟨m, hm⟩ : ∃ m, m = modeOf (bytesOf s) := ⟨_, rfl⟩
  rw [← hm] at hn1 ha1 hin ⊢
  clear hm
  have HN := Lib.hid hn1
  have HA := Lib.hid ha1
  clear hn1 ha1
  rcases hin with rfl | rfl | rfl
  · go_enter Tryz.func47, Tryz.ntmps47
    go_wp2_with fail
    refine (segN_any s A g c bs _ h hs hn (HN.out (by trivial))).mono ?_
    rintro e w1 ⟨g', rfl, hg, hB, hk⟩
    go_wp2_with fail
    go_ret
    exact ⟨g', rfl, hg, hB, hk⟩
  · go_enter Tryz.func47, Tryz.ntmps47
    go_wp2_with fail
    refine (segA_any s A g c bs _ h hs hn (HA.out (by trivial))).mono ?_
    rintro e w1 ⟨g', rfl, hg, hB, hk⟩
    go_wp2_with fail
    go_ret
    exact ⟨g', rfl, hg, hB, hk⟩
  · go_enter Tryz.func47, Tryz.ntmps47
    go_wp2_with fail
    refine (seg8_any s A g c bs _ h hs hn).mono ?_
    rintro e w1 ⟨g', rfl, hg, hB, hk⟩
    go_wp2_with fail
    go_ret
    exact ⟨g', rfl, hg, hB, hk⟩
end Go.Proofs.YtcekbhhpcmhicaaGreatDoor
