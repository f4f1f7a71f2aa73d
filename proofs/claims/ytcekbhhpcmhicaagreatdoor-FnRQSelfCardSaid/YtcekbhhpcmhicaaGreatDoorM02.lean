/- Words on memory: a block that is known whole; what is kept when some blocks are written; lists of numbers as cells; Interleaving: how far the list of bytes has come; GF(256) of QR codes (285) by tables; polynomials as lists, the highest coefficient first; what evaluation does. -/
import Derived.Test.YtcekbhhpcmhicaaGreatDoorM01
import Derived.Below
import Derived.BigQuiet
import Derived.Deep.Draws
import Derived.Deep.QuietTactic
import Derived.LaidEqlPtr
import Derived.Laws.CopyOwn
import Derived.Laws.OwnMore
import Derived.Laws.Rows
import Derived.Lib.Hide
import Derived.StillTailTactics
import Derived.WalkKit
import Derived.WalkLawsBesides
import Derived.WalkSpells
namespace Go.QW
open Go.RowKit

/-- block g is just the cells cs of element type t, none frozen -/
def Blk (w : World) (g : Nat) (t : TypeId) (cs : Array Value) : Prop := w.heap[g]? = some (.cells cs t (0, 0))

section
variable {w w' : World} {g : Nat} {t : TypeId} {cs : Array Value}
theorem Blk.lt (h : Blk w g t cs) : g < w.heap.size := by
  rcases Nat.lt_or_ge g w.heap.size with hlt | hge
  · exact hlt
  · unfold Blk at h; rw [Array.getElem?_eq_none hge] at h; cases h
theorem Blk.cell (h : Blk w g t cs) (i : Nat) : w.cell? ⟨g, i, none⟩ = cs[i]? := cell_of_row w g i cs t (0, 0) h
theorem Blk.frozen (h : Blk w g t cs) (i : Nat) : w.frozen? ⟨g, i, none⟩ = false := by
  unfold Blk at h
  simp [World.frozen?, h]
theorem Blk.new (w : World) (t : TypeId) (cs : Array Value) : Blk (w.alloc (.cells cs t)) w.heap.size t cs := heap_alloc_new w _
theorem Blk.drew (h : Blk w g t cs) : Blk w.drew g t cs := h
theorem Blk.drewN (h : Blk w g t cs) (n : Nat) : Blk (w.drewN n) g t cs := h
theorem Blk.alloc (h : Blk w g t cs) (o : Obj) : Blk (w.alloc o) g t cs := (Below.heap_alloc w o g h.lt).trans h
theorem Blk.set_ (h : Blk w g t cs) (i : Nat) (u : Value) : Blk (w.setCell ⟨g, i, none⟩ u) g t (cs.setIfInBounds i u) := by
  unfold Blk at h ⊢
  simp [World.setCell, Array.getElem?_modify, h]
theorem Blk.far (h : Blk w g t cs) {p : Addr} (hp : g ≠ p.block) (u : Value) : Blk (w.setCell p u) g t cs := (Below.heap_setCell w p u g hp).trans h
theorem Blk.below {B : Nat} (h : Blk w g t cs) (hb : Below B w w') (hg : g < B) : Blk w' g t cs := (hb.block g hg).trans h
theorem Blk.grown {row : Option Nat} (h : Blk w g t cs) (hb : w.grownBy w' row) (hg : some g ≠ row) : Blk w' g t cs := (hb.block g h.lt hg).trans h
theorem Blk.ne_ {g' : Nat} {t' : TypeId} {cs' : Array Value} (h : Blk w g t cs) (h' : Blk w g' t' cs') (hne : t ≠ t') : g ≠ g' := by
  rintro rfl
  unfold Blk at h h'
  rw [h] at h'
  injection h' with h'
  injection h' with _ ht
  exact hne ht
end

/-- a store leaves other blocks alone, for the walk -/
@[go_sem, simp] theorem cell_set_far (w : World) (g i b j : Nat) (u : Value) (h : g ≠ b) : (w.setCell ⟨b, j, none⟩ u).cell? ⟨g, i, none⟩ = w.cell? ⟨g, i, none⟩ :=
  World.cell?_of_block (w := w) (a := ⟨g, i, none⟩) (Below.heap_setCell w ⟨b, j, none⟩ u g h)
@[go_sem, simp] theorem frozen_set_far (w : World) (g i b j : Nat) (u : Value) (h : g ≠ b) : (w.setCell ⟨b, j, none⟩ u).frozen? ⟨g, i, none⟩ = w.frozen? ⟨g, i, none⟩ :=
  World.frozen?_of_block (w := w) (a := ⟨g, i, none⟩) (Below.heap_setCell w ⟨b, j, none⟩ u g h)

/-- w' is w with new blocks; of the old ones only those in S may have been written -/
structure Kp (S : List Nat) (w w' : World) : Prop where
  os : w'.os = w.os
  tape : w'.tape = w.tape
  output : w'.output = w.output
  size : w.heap.size ≤ w'.heap.size
  block : ∀ k, k < w.heap.size → k ∉ S → w'.heap[k]? = w.heap[k]?

theorem below_drewN {B : Nat} {a w : World} (h : Below B a w) (n : Nat) : Below B a (w.drewN n) := ⟨h.os, h.tape, h.output, h.size, h.block⟩
section
variable {w w' w'' : World} {S T : List Nat}
theorem Kp.refl (S : List Nat) (w : World) : Kp S w w := ⟨rfl, rfl, rfl, Nat.le_refl _, fun _ _ _ => rfl⟩
theorem Kp.mono (h : Kp S w w') (hs : ∀ k, k ∈ S → k < w.heap.size → k ∈ T) : Kp T w w' := ⟨h.os, h.tape, h.output, h.size, fun k hk hT => h.block k hk fun hS => hT (hs k hS hk)⟩
theorem Kp.trans (h : Kp S w w') (k : Kp T w' w'') (hT : ∀ i, i ∈ T → i < w.heap.size → i ∈ S) : Kp S w w'' :=
  ⟨k.os.trans h.os, k.tape.trans h.tape, k.output.trans h.output, Nat.le_trans h.size k.size, fun i hi hS => (k.block i (by have := h.size; omega) fun hi' => hS (hT i hi' hi)).trans (h.block i hi hS)⟩
theorem Kp.of_below (h : Below w.heap.size w w') : Kp S w w' := ⟨h.os, h.tape, h.output, h.size, fun k hk _ => h.block k hk⟩
theorem Kp.below (h : Kp [] w w') : Below w.heap.size w w' := ⟨h.os, h.tape, h.output, h.size, fun k hk => h.block k hk (by simp)⟩
theorem Kp.drew (h : Kp S w w') : Kp S w w'.drew := ⟨h.os, h.tape, h.output, h.size, h.block⟩
theorem Kp.drewN (h : Kp S w w') (n : Nat) : Kp S w (w'.drewN n) := ⟨h.os, h.tape, h.output, h.size, h.block⟩
theorem Kp.alloc (h : Kp S w w') (o : Obj) : Kp S w (w'.alloc o) :=
  h.trans (T := []) ⟨rfl, rfl, rfl, by simp, fun k hk _ => Below.heap_alloc _ _ _ hk⟩ (by simp)
theorem Kp.setCell (h : Kp S w w') {p : Addr} (hp : p.block < w.heap.size → p.block ∈ S) (u : Value) : Kp S w (w'.setCell p u) :=
  h.trans (T := [p.block]) ⟨rfl, rfl, rfl, by simp [World.setCell], fun k _ hk => Below.heap_setCell _ _ _ _ (by simpa using hk)⟩ (by
    intro i hi hlt; simp only [List.mem_singleton] at hi; subst hi; exact hp hlt)
theorem Kp.grown {row : Option Nat} (h : Kp S w w') (hg : w'.grownBy w'' row) (hr : ∀ k, row = some k → k < w.heap.size → k ∈ S) : Kp S w w'' :=
  h.trans (T := row.toList) ⟨hg.os, hg.tape, hg.output, hg.size, fun k hk hn => hg.block k hk (fun e => hn (by rw [← e]; simp))⟩ (by
    intro i hi hlt; exact hr i (by simpa using hi) hlt)
theorem Blk.kp {g : Nat} {t : TypeId} {cs : Array Value} (h : Blk w g t cs) (k : Kp S w w') (hg : g ∉ S) : Blk w' g t cs := (k.block g h.lt hg).trans h
theorem Kp.cell (h : Kp S w w') {p : Addr} (hp : p.block < w.heap.size) (hS : p.block ∉ S) : w'.cell? p = w.cell? p := World.cell?_of_block (w := w) (h.block p.block hp hS)
theorem Kp.frozen (h : Kp S w w') {p : Addr} (hp : p.block < w.heap.size) (hS : p.block ∉ S) : w'.frozen? p = w.frozen? p := World.frozen?_of_block (w := w) (h.block p.block hp hS)
end

/-- an element, closed to the walk -/
def nth (l : List Nat) (i : Nat) : Nat := l.getD i 0
theorem nth_eq (l : List Nat) (i : Nat) : nth l i = l.getD i 0 := rfl
theorem nth_get {l : List Nat} {i : Nat} (h : i < l.length) : nth l i = l[i] := by simp [nth, List.getD_eq_getElem?_getD, h]
theorem nth_ge {l : List Nat} {i : Nat} (h : l.length ≤ i) : nth l i = 0 := by simp [nth, List.getD_eq_getElem?_getD, h]
theorem nth_set {l : List Nat} {i j n : Nat} (h : i < l.length) : nth (l.set i n) j = if j = i then n else nth l j := by
  unfold nth
  rw [List.getD_eq_getElem?_getD, List.getElem?_set, List.getD_eq_getElem?_getD]
  by_cases e : i = j
  · subst e; simp [h]
  · have e' : ¬ j = i := fun h => e h.symm
    simp [e, e']
theorem ext_nth {l m : List Nat} (hl : l.length = m.length) (h : ∀ i, i < l.length → nth l i = nth m i) : l = m := by
  apply List.ext_getElem hl
  intro i h1 h2
  have := h i h1
  rwa [nth_get h1, nth_get h2] at this
theorem nth_map (f : Nat → Nat) {l : List Nat} {i : Nat} (h : i < l.length) : nth (l.map f) i = f (nth l i) := by
  rw [nth_get (by simpa using h), nth_get h]; simp
theorem nth_append_left {l m : List Nat} {i : Nat} (h : i < l.length) : nth (l ++ m) i = nth l i := by
  rw [nth_get (by simp; omega), nth_get h]; simp [h]
theorem nth_append_right {l m : List Nat} {i : Nat} : nth (l ++ m) (l.length + i) = nth m i := by
  simp only [nth, List.getD_eq_getElem?_getD]
  rw [List.getElem?_append_right (by omega), Nat.add_sub_cancel_left]
theorem nth_replicate (n c i : Nat) : nth (List.replicate n c) i = if i < n then c else 0 := by
  unfold nth
  rw [List.getD_eq_getElem?_getD, List.getElem?_replicate]
  split <;> simp
theorem nth_drop (l : List Nat) (k i : Nat) : nth (l.drop k) i = nth l (k + i) := by simp [nth, List.getD_eq_getElem?_getD]
theorem nth_take {l : List Nat} {k i : Nat} (h : i < k) : nth (l.take k) i = nth l i := by
  unfold nth; rw [List.getD_eq_getElem?_getD, List.getD_eq_getElem?_getD, List.getElem?_take_of_lt h]
theorem nth_zip {l m : List Nat} {i : Nat} (h1 : i < l.length) (h2 : i < m.length) : nth (List.zipWith (· ^^^ ·) l m) i = nth l i ^^^ nth m i := by
  rw [nth_get (by simp; omega), nth_get h1, nth_get h2]; simp
theorem nth_zero (l : List Nat) : nth l 0 = l.headD 0 := by cases l <;> simp [nth]

/-- a table -/
def tab (n : Nat) (f : Nat → Nat) : List Nat := (List.range n).map f
theorem tab_length (n : Nat) (f : Nat → Nat) : (tab n f).length = n := by simp [tab]
theorem nth_tab {n : Nat} {f : Nat → Nat} {i : Nat} (h : i < n) : nth (tab n f) i = f i := by
  rw [nth_get (by rw [tab_length]; exact h)]; simp [tab]
theorem tab_set (n : Nat) (f : Nat → Nat) (k v : Nat) : (tab n f).set k v = tab n (fun i => if i = k then v else f i) := by
  apply ext_nth (by simp [tab_length])
  intro i hi
  rw [List.length_set, tab_length] at hi
  rw [nth_tab hi]
  by_cases hk : k < n
  · rw [nth_set (by rw [tab_length]; exact hk), nth_tab hi]
  · rw [List.set_eq_of_length_le (by rw [tab_length]; omega), nth_tab hi, if_neg (by omega)]
theorem tab_congr {n : Nat} {f g : Nat → Nat} (h : ∀ i, i < n → f i = g i) : tab n f = tab n g := by
  apply ext_nth (by simp [tab_length])
  intro i hi
  rw [tab_length] at hi
  rw [nth_tab hi, nth_tab hi, h i hi]
theorem tab_nth (l : List Nat) : tab l.length (nth l) = l := by
  apply ext_nth (by simp [tab_length])
  intro i hi
  rw [tab_length] at hi
  rw [nth_tab hi]
theorem tab_zero (n : Nat) : tab n (fun _ => 0) = List.replicate n 0 := by
  apply ext_nth (by simp [tab_length])
  intro i hi
  rw [tab_length] at hi
  rw [nth_tab hi, nth_replicate, if_pos hi]

theorem below_of_drewN {w w1 : World} {n : Nat} (h : Below (w.drewN n).heap.size (w.drewN n) w1) : Below w.heap.size w w1 := ⟨h.os, h.tape, h.output, h.size, h.block⟩
theorem below_of_drew {w w1 : World} (h : Below w.drew.heap.size w.drew w1) : Below w.heap.size w w1 := ⟨h.os, h.tape, h.output, h.size, h.block⟩
theorem below_trans' {B : Nat} {w w1 w2 : World} (h : Below B w w1) (k : Below w1.heap.size w1 w2) (hB : B ≤ w1.heap.size) : Below B w w2 := h.trans (k.mono hB)
theorem below_of_kp {B : Nat} {a w w' : World} {S : List Nat} (hb : Below B a w) (hk : Kp S w w') (hB : B ≤ w.heap.size) (hS : ∀ k, k ∈ S → B ≤ k) : Below B a w' :=
  hb.trans ⟨hk.os, hk.tape, hk.output, hk.size, fun k hk' => hk.block k (by omega) (fun h => by have := hS k h; omega)⟩
/-- numbers as cells -/
def ints (k : IntKind) (l : List Nat) : Array Value := (l.map fun n : Nat => Value.int k (n : Int)).toArray
theorem ints_get {k : IntKind} {l : List Nat} {i : Nat} (h : i < l.length) : (ints k l)[i]? = some (.int k (nth l i : Nat)) := by
  simp [ints, nth, List.getD_eq_getElem?_getD, h]
theorem ints_size (k : IntKind) (l : List Nat) : (ints k l).size = l.length := by simp [ints]
theorem ints_set (k : IntKind) (l : List Nat) (i n : Nat) : (ints k l).setIfInBounds i (.int k (n : Int)) = ints k (l.set i n) := by
  simp [ints, List.map_set]
theorem nth_splice {l : List Nat} {off : Nat} {cs : List Nat} (h : off + cs.length ≤ l.length) (i : Nat) : nth (splice l off cs) i = if i < off then nth l i else if i < off + cs.length then nth cs (i - off) else nth l i := by
  unfold splice
  by_cases h1 : i < off
  · rw [if_pos h1, nth_append_left (by rw [List.length_take]; omega)]
    rw [nth_get (by rw [List.length_take]; omega), nth_get (by omega)]; simp
  · rw [if_neg h1]
    have e := nth_append_right (l := l.take off) (m := cs ++ l.drop (off + cs.length)) (i := i - off)
    rw [List.length_take, Nat.min_eq_left (by omega), show off + (i - off) = i from by omega] at e
    rw [e]
    by_cases h2 : i < off + cs.length
    · rw [if_pos h2, nth_append_left (by omega)]
    · rw [if_neg h2]
      have e2 := nth_append_right (l := cs) (m := l.drop (off + cs.length)) (i := i - off - cs.length)
      rw [show cs.length + (i - off - cs.length) = i - off from by omega] at e2
      rw [e2, nth_drop]
      congr 1; omega
theorem addr_add (g o j : Nat) : (⟨g, o, none⟩ : Addr).add j = ⟨g, o + j, none⟩ := by
  unfold Addr.add; split
  · rename_i h; subst h; rfl
  · rfl
theorem ints_list (k : IntKind) (l : List Nat) : (ints k l).toList = l.map fun n : Nat => Value.int k (n : Int) := by simp [ints]
/-- copy onto numbers that are known whole: where the walk stands at the operation half run -/
theorem upon_copy_ints {P : Program} {W : World} {o : Oper} {a : Act} {next : Act → World → Prop} {Q : Exit → Act → World → Prop} {dT sT ty elem : TypeId} (hu : P.underlying dT = some (.slice elem)) (hsz : (P.info? elem).map (·.size) = some 1)
    {g off dLen dCap gs so sLen sCap : Nat} (k : IntKind) (t : TypeId) (l cs : List Nat) (hg : Blk W g t (ints k l)) (hn : cs.length = Nat.min sLen dLen)
    (hsrc : ∀ j, j < cs.length → W.cell? ⟨gs, so + j, none⟩ = some (.int k (nth cs j : Nat))) (hfit : off + cs.length ≤ l.length)
    (h : ∀ w1, Blk w1 g t (ints k (splice l off cs)) → Kp [g] W w1 → w1.heap.size = W.heap.size → next (a.put o.dst (.int .i64 (cs.length : Int))) w1) :
    Oper.upon P o a next Q ((Sem.run P (Builtin.copy_ #[dT, sT] ty #[.slice (some ⟨g, off, none⟩) dLen dCap, .slice (some ⟨gs, so, none⟩) sLen sCap]) W).andThen fun a w' => .ok (.value a) w') := by
  have hrun := run_copy_row (P := P) W dT sT ty elem g off dLen dCap ⟨gs, so, none⟩ sLen sCap (ints k l) t (cs.map fun n : Nat => Value.int k (n : Int)) hu hsz hg (by simpa using hn) (by
    intro j v hv
    rw [List.getElem?_map] at hv
    have hj : j < cs.length := by
      rcases Nat.lt_or_ge j cs.length with h | h
      · exact h
      · rw [List.getElem?_eq_none h] at hv; cases hv
    rw [List.getElem?_eq_getElem hj] at hv
    injection hv with hv
    rw [addr_add, hsrc j hj, nth_get hj, ← hv]) (by simpa [ints_size] using hfit) (by
    intro v hv
    rw [List.mem_map] at hv
    obtain ⟨n, _, rfl⟩ := hv
    rfl)
  rw [hrun]
  have e : ((ints k l).toList.take off ++ (cs.map fun n : Nat => Value.int k (n : Int)) ++ (ints k l).toList.drop (off + (cs.map fun n : Nat => Value.int k (n : Int)).length)).toArray = ints k (splice l off cs) := by
    simp [ints, splice]
  rw [e]
  have hlen : goInt ((cs.map fun n : Nat => Value.int k (n : Int)).length : Nat) = .int .i64 (cs.length : Int) := by simp [goInt]
  rw [hlen]
  exact h _ (setRow_heap W g _ _ t _ hg) ⟨rfl, rfl, rfl, by simp [World.setRow], fun i _ hi => setRow_other W g i _ (by simpa using hi)⟩ (by simp [World.setRow])
theorem madeCells_int (k : IntKind) (n : Nat) : madeCells (Value.int k 0).cells n = ints k (List.replicate n 0) := by
  unfold madeCells ints
  apply Array.ext
  · simp
  · intro i h1 h2
    simp [Value.cells, Nat.mod_one]
/-- make([]T, n) for T of numbers -/
theorem make_flat {P : Program} {t e : TypeId} (ht : P.underlying t = some (.slice e)) {k : IntKind} {b : Nat} (hi : (P.info? e).map (fun i => (i.zero, i.size, i.bytes)) = some (some (.int k 0), 1, b)) (hb : b ≤ 8)
    (n : Nat) (x : Int) (hx : x = n) (hn : n ≤ 1000000000) (w : World) :
    (Instr.makeSlice t (.int .i64 x) (.int .i64 x)).run P w = .ok (.slice (some ⟨w.heap.size, 0, none⟩) n n) (w.alloc (.cells (ints k (List.replicate n 0)) e)) := by
  subst hx
  obtain ⟨i, hi1, hz, hs, hb'⟩ := info_parts hi
  have := run_make (P := P) w t e i _ ht hi1 hz .i64 .i64 n n (by omega) (by omega) (by
    rw [hb']
    have : (b : Int) * n ≤ 8 * n := Int.mul_le_mul_of_nonneg_right (by omega) (by omega)
    omega) (by omega)
  rw [this, hs, Int.toNat_natCast, Nat.mul_one, madeCells_int]
theorem ofInt_i64 (a : Nat) (ha : a < 4611686018427387904) : (BitVec.ofInt 64 (a : Int)).toNat = a := by
  rw [BitVec.ofInt_natCast, BitVec.toNat_ofNat]; exact Nat.mod_eq_of_lt (by omega)
theorem wrap_nat_i64 (n : Nat) (h : n < 4611686018427387904) : IntKind.i64.wrap (n : Int) = n := by rw [IntKind.wrap_i64]; omega
theorem i64_xor (a b : Nat) (ha : a < 4611686018427387904) (hb : b < 4611686018427387904) : bits .xor .i64 (a : Int) (b : Int) = ((a ^^^ b : Nat) : Int) := by
  have hx : a ^^^ b < 2 ^ 62 := Nat.xor_lt_two_pow (by omega) (by omega)
  show IntKind.i64.wrap ((BitVec.ofInt 64 (a : Int) ^^^ BitVec.ofInt 64 (b : Int)).toNat : Int) = _
  rw [BitVec.toNat_xor, ofInt_i64 a ha, ofInt_i64 b hb, wrap_nat_i64 _ (by omega)]
theorem i64_and (a b : Nat) (ha : a < 4611686018427387904) (hb : b < 4611686018427387904) : bits .and .i64 (a : Int) (b : Int) = ((a &&& b : Nat) : Int) := by
  have hx : a &&& b < 2 ^ 62 := Nat.and_lt_two_pow _ (by omega)
  show IntKind.i64.wrap ((BitVec.ofInt 64 (a : Int) &&& BitVec.ofInt 64 (b : Int)).toNat : Int) = _
  rw [BitVec.toNat_and, ofInt_i64 a ha, ofInt_i64 b hb, wrap_nat_i64 _ (by omega)]
theorem i64_or (a b : Nat) (ha : a < 4611686018427387904) (hb : b < 4611686018427387904) : bits .or .i64 (a : Int) (b : Int) = ((a ||| b : Nat) : Int) := by
  have hx : a ||| b < 2 ^ 62 := Nat.or_lt_two_pow (by omega) (by omega)
  show IntKind.i64.wrap ((BitVec.ofInt 64 (a : Int) ||| BitVec.ofInt 64 (b : Int)).toNat : Int) = _
  rw [BitVec.toNat_or, ofInt_i64 a ha, ofInt_i64 b hb, wrap_nat_i64 _ (by omega)]
theorem neq_ptr_same {P : Program} {tp te : TypeId} (hp : P.underlying tp = some (.pointer te)) (hte : (P.info? te).isSome = true) (a : Addr) (w : World) :
    (binOp .neq tp (.pointer (some a)) (.pointer (some a))).run P w = .ok (.bool false) w := by
  obtain ⟨j, hj⟩ := Option.isSome_iff_exists.1 hte
  have h : ∀ d : Nat, (Op.equalIn (d + 1) tp (.pointer (some a)) (.pointer (some a))).run P w = .ok true w := fun d => by
    simp [Op.equalIn, run_underlying hp, sizeOf, typeInfo, hj, run_sameAddr_same]
  simp only [binOp]
  simp [Op.equal, Op.maxDepth, h 9999]
theorem ret_int {k : IntKind} {a b : Int} (h : a = b) : Ending.returned (.int k a) = .returned (.int k b) := by rw [h]
theorem ret_bool {a b : Bool} (h : a = b) : Ending.returned (.bool a) = .returned (.bool b) := by rw [h]
end Go.QW
namespace Go.QI
open Go.QW
def at2 (R q m i j : Nat) : Nat := if i < q then i * R + j else if i = q then q * R + (j - (R - m)) else q * R + m
section
variable {R q m ec i j o : Nat}
theorem at2_rank (h : i < dl R q m j) : rank R q m j i = at2 R q m i j := by
  unfold at2
  rcases dl_cases R q m j with ⟨h1, e⟩ | ⟨h1, e⟩
  · by_cases hq : i < q
    · rw [if_pos hq, rank1 hq]
    · have : i = q := by omega
      subst this
      rw [if_neg hq, if_pos rfl, rank2 h1]
  · rw [if_pos (by omega), rank1 (by omega)]
theorem at2_put (h : i < dl R q m j) : at2 R q m i (j + 1) = at2 R q m i j + 1 := by
  unfold at2
  rcases dl_cases R q m j with ⟨h1, e⟩ | ⟨h1, e⟩
  · by_cases hq : i < q
    · rw [if_pos hq, if_pos hq]; omega
    · rw [if_neg hq, if_neg hq, if_pos (by omega), if_pos (by omega)]; omega
  · rw [if_pos (by omega), if_pos (by omega)]; omega
theorem at2_skip (h : dl R q m j ≤ i) (hi : i ≤ q) : at2 R q m i (j + 1) = at2 R q m i j := by
  unfold at2
  rcases dl_cases R q m j with ⟨h1, e⟩ | ⟨h1, e⟩
  · omega
  · have hn : ¬ i < q := by omega
    have he : i = q := by omega
    rw [if_neg hn, if_pos he, if_neg hn, if_pos he]; omega
theorem at2_row (hm : m < R) (hi : i ≤ q) : at2 R q m i R = at2 R q m (i + 1) 0 := by
  unfold at2
  have e : (i + 1) * R = i * R + R := Nat.succ_mul i R
  by_cases h1 : i + 1 < q
  · rw [if_pos (by omega), if_pos h1, e]; rfl
  · by_cases h2 : i + 1 = q
    · rw [if_pos (by omega), if_neg h1, if_pos h2, ← h2, e]; omega
    · rw [if_neg (by omega), if_pos (by omega), if_neg h1, if_neg h2]; omega
theorem at2_zero (hq : 1 ≤ q) : at2 R q m 0 0 = 0 := by unfold at2; rw [if_pos (by omega)]; omega
/-- the bytes in order, o of them -/
structure IlC (R q m ec : Nat) (D : Nat → List Nat) (cw : List Nat) (o : Nat) : Prop where
  len : cw.length = o
  at_ : ∀ j p, j < R → p < dl R q m j + ec → rank R q m j p < o → nth cw (rank R q m j p) = nth (D j) p
theorem IlC.step {D : Nat → List Nat} {cw : List Nat} {p : Nat} (h : IlC R q m ec D cw o) (hm : m < R) (hj : j < R) (hr : rank R q m j p = o) : IlC R q m ec D (cw ++ [nth (D j) p]) (o + 1) := by
  refine ⟨by rw [List.length_append, h.len]; rfl, fun j' p' hj' hp' hlt => ?_⟩
  by_cases e : rank R q m j' p' = o
  · obtain ⟨e1, e2⟩ := rank_inj hm hj' hj (e.trans hr.symm)
    subst e1 e2
    rw [e]
    have := nth_append_right (l := cw) (m := [nth (D j') p']) (i := 0)
    rw [h.len] at this
    exact this
  · rw [nth_append_left (by rw [h.len]; omega)]
    exact h.at_ j' p' hj' hp' (by omega)
end
end Go.QI
namespace Go.QGF

theorem xlc (a b c : Nat) : a ^^^ (b ^^^ c) = b ^^^ (a ^^^ c) := by rw [← Nat.xor_assoc, Nat.xor_comm a b, Nat.xor_assoc]

/-- times the generator -/
def xt (a : Nat) : Nat := if 256 ≤ a * 2 then ((a * 2) ^^^ 285) &&& 255 else a * 2
def ex : Nat → Nat
  | 0 => 1
  | i + 1 => xt (ex i)
/-- the logarithms' table behind k rounds -/
def lgT (k : Nat) : List Nat := (List.range k).foldl (fun l i => l.set (ex i) i) (List.replicate 256 0)
def lg (a : Nat) : Nat := (lgT 255).getD a 0
def gm (a b : Nat) : Nat := if a = 0 ∨ b = 0 then 0 else ex ((lg a + lg b) % 255)

theorem xt_lt {a : Nat} (h : a < 256) : xt a < 256 := by
  unfold xt
  split
  · exact Nat.lt_of_le_of_lt Nat.and_le_right (by decide)
  · omega
theorem ex_lt (i : Nat) : ex i < 256 := by
  induction i with
  | zero => decide
  | succ i ih => exact xt_lt ih
theorem xt_zero : xt 0 = 0 := by decide

theorem xt_eq {a : Nat} (h : a < 256) : xt a = (a <<< 1) ^^^ (if 128 ≤ a then 285 else 0) := by
  have : ∀ a : Fin 256, xt a.val = (a.val <<< 1) ^^^ (if 128 ≤ a.val then 285 else 0) := by decide +kernel
  exact this ⟨a, h⟩

theorem hi_eq {a : Nat} (h : a < 256) : decide (128 ≤ a) = a.testBit 7 := by
  have : ∀ a : Fin 256, decide (128 ≤ a.val) = a.val.testBit 7 := by decide +kernel
  exact this ⟨a, h⟩

theorem xt_xor {a b : Nat} (ha : a < 256) (hb : b < 256) : xt (a ^^^ b) = xt a ^^^ xt b := by
  have hab : a ^^^ b < 256 := Nat.xor_lt_two_pow (n := 8) ha hb
  rw [xt_eq ha, xt_eq hb, xt_eq hab]
  have e1 : ∀ c : Nat, c < 256 → (if 128 ≤ c then 285 else 0) = (if c.testBit 7 = true then 285 else 0) := by
    intro c hc
    have := hi_eq hc
    by_cases h : 128 ≤ c
    · simp [h] at this; simp [h, ← this]
    · simp [h] at this; simp [h, ← this]
  rw [e1 _ ha, e1 _ hb, e1 _ hab, Nat.testBit_xor, Nat.shiftLeft_xor_distrib]
  cases a.testBit 7 <;> cases b.testBit 7 <;> simp [Nat.xor_assoc, Nat.xor_comm, xlc]

def xts : Nat → Nat → Nat
  | 0, b => b
  | k + 1, b => xt (xts k b)
theorem xts_lt {b : Nat} (h : b < 256) (k : Nat) : xts k b < 256 := by
  induction k with
  | zero => exact h
  | succ k ih => exact xt_lt ih
theorem xts_zero (k : Nat) : xts k 0 = 0 := by
  induction k with
  | zero => rfl
  | succ k ih => simp [xts, ih, xt_zero]
theorem xts_xor {a b : Nat} (ha : a < 256) (hb : b < 256) (k : Nat) : xts k (a ^^^ b) = xts k a ^^^ xts k b := by
  induction k with
  | zero => rfl
  | succ k ih => simp only [xts, ih]; exact xt_xor (xts_lt ha k) (xts_lt hb k)
theorem xts_ex (k j : Nat) : xts k (ex j) = ex (j + k) := by
  induction k with
  | zero => rfl
  | succ k ih => simp only [xts, ih]; rfl
theorem ex_255 : ex 255 = 1 := by decide +kernel
theorem ex_add (i : Nat) : ex (i + 255) = ex i := by
  induction i with
  | zero => exact ex_255
  | succ i ih => show xt (ex (i + 255)) = xt (ex i); rw [ih]
theorem ex_mod (i : Nat) : ex (i % 255) = ex i := by
  have : ∀ q r, ex (r + 255 * q) = ex r := by
    intro q
    induction q with
    | zero => intro r; rfl
    | succ q ih => intro r; rw [show r + 255 * (q + 1) = (r + 255 * q) + 255 from by omega, ex_add, ih]
  have h := this (i / 255) (i % 255)
  rw [Nat.mod_add_div] at h
  exact h.symm
theorem lg_spec : ∀ a : Fin 256, a.val ≠ 0 → ex (lg a.val) = a.val ∧ lg a.val < 255 := by decide +kernel
theorem ex_lg {a : Nat} (h : a < 256) (h0 : a ≠ 0) : ex (lg a) = a := (lg_spec ⟨a, h⟩ h0).1
theorem lg_lt {a : Nat} (h : a < 256) : lg a < 255 := by
  by_cases h0 : a = 0
  · subst h0; decide +kernel
  · exact (lg_spec ⟨a, h⟩ h0).2
theorem ex_ne (i : Nat) : ex i ≠ 0 := by
  have : ∀ r : Fin 255, ex r.val ≠ 0 := by decide +kernel
  rw [← ex_mod]
  exact this ⟨i % 255, by omega⟩
theorem lg_ex_lt : ∀ r : Fin 255, lg (ex r.val) = r.val := by decide +kernel
theorem lg_ex (i : Nat) : lg (ex i) = i % 255 := by
  rw [← ex_mod]; exact lg_ex_lt ⟨i % 255, by omega⟩

theorem gm_ex (i : Nat) {b : Nat} (hb : b < 256) : gm (ex i) b = xts i b := by
  unfold gm
  by_cases h0 : b = 0
  · subst h0; rw [if_pos (Or.inr rfl), xts_zero]
  · rw [if_neg (by rintro (h | h); exact ex_ne _ h; exact h0 h)]
    rw [lg_ex]
    have hb' : b = ex (lg b) := (ex_lg hb h0).symm
    conv => rhs; rw [hb']
    rw [xts_ex, ← ex_mod (lg b + i)]
    exact congrArg ex (by omega)
theorem gm_lt (a b : Nat) : gm a b < 256 := by
  unfold gm; split
  · decide
  · exact ex_lt _
theorem gm_comm (a b : Nat) : gm a b = gm b a := by unfold gm; rw [Nat.add_comm]; simp only [Or.comm]
theorem gm_zero (a : Nat) : gm a 0 = 0 := by simp [gm]
theorem zero_gm (a : Nat) : gm 0 a = 0 := by simp [gm]
theorem lg_one : lg 1 = 0 := by decide +kernel
theorem one_gm {b : Nat} (hb : b < 256) : gm 1 b = b := by
  have := gm_ex 0 hb; exact this
theorem gm_one {b : Nat} (hb : b < 256) : gm b 1 = b := by rw [gm_comm, one_gm hb]
theorem gm_xor {a b c : Nat} (ha : a < 256) (hb : b < 256) (hc : c < 256) : gm a (b ^^^ c) = gm a b ^^^ gm a c := by
  by_cases h0 : a = 0
  · subst h0; simp [zero_gm]
  · rw [← ex_lg ha h0, gm_ex _ hb, gm_ex _ hc, gm_ex _ (Nat.xor_lt_two_pow (n := 8) hb hc)]
    exact xts_xor hb hc _
theorem xor_gm {a b c : Nat} (ha : a < 256) (hb : b < 256) (hc : c < 256) : gm (b ^^^ c) a = gm b a ^^^ gm c a := by
  rw [gm_comm, gm_xor ha hb hc, gm_comm a b, gm_comm a c]
theorem gm_ex_ex (i j : Nat) : gm (ex i) (ex j) = ex (i + j) := by
  rw [gm_ex _ (ex_lt _), xts_ex, Nat.add_comm]
theorem gm_assoc {a b c : Nat} (ha : a < 256) (hb : b < 256) (hc : c < 256) : gm (gm a b) c = gm a (gm b c) := by
  by_cases h0 : a = 0
  · subst h0; simp [zero_gm]
  by_cases h1 : b = 0
  · subst h1; simp [zero_gm, gm_zero]
  by_cases h2 : c = 0
  · subst h2; simp [gm_zero]
  rw [← ex_lg ha h0, ← ex_lg hb h1, ← ex_lg hc h2]
  simp only [gm_ex_ex, Nat.add_assoc]
theorem xor_lt {a b : Nat} (ha : a < 256) (hb : b < 256) : a ^^^ b < 256 := Nat.xor_lt_two_pow (n := 8) ha hb

/-! Polynomials: lists, the highest coefficient first. -/
def Ok (p : List Nat) : Prop := ∀ c ∈ p, c < 256
/-- the value at x -/
def ev (x : Nat) (p : List Nat) : Nat := p.foldl (fun acc c => gm x acc ^^^ c) 0
def evFrom (x acc : Nat) (p : List Nat) : Nat := p.foldl (fun acc c => gm x acc ^^^ c) acc

theorem Ok.cons {c : Nat} {p : List Nat} : Ok (c :: p) ↔ c < 256 ∧ Ok p := by simp [Ok]
theorem Ok.append {p q : List Nat} : Ok (p ++ q) ↔ Ok p ∧ Ok q := by
  unfold Ok; simp only [List.mem_append]
  exact ⟨fun h => ⟨fun c hc => h c (.inl hc), fun c hc => h c (.inr hc)⟩, fun h c hc => hc.elim (h.1 c) (h.2 c)⟩
theorem Ok.replicate (n : Nat) : Ok (List.replicate n 0) := by
  intro c hc; rw [List.mem_replicate] at hc; omega
theorem Ok.nil : Ok [] := by intro c hc; cases hc
theorem evFrom_lt {x acc : Nat} {p : List Nat} (hp : Ok p) (ha : acc < 256) : evFrom x acc p < 256 := by
  induction p generalizing acc with
  | nil => exact ha
  | cons c p ih =>
    rw [Ok.cons] at hp
    exact ih hp.2 (xor_lt (gm_lt _ _) hp.1)
theorem ev_lt {x : Nat} {p : List Nat} (hp : Ok p) : ev x p < 256 := evFrom_lt hp (by decide)
theorem ev_zero_cons (x : Nat) (p : List Nat) : ev x (0 :: p) = ev x p := by simp [ev, gm_zero]
theorem ev_replicate_append (x n : Nat) (p : List Nat) : ev x (List.replicate n 0 ++ p) = ev x p := by
  induction n with
  | zero => rfl
  | succ n ih => rw [List.replicate_succ, List.cons_append, ev_zero_cons, ih]
theorem ev_append (x : Nat) (p q : List Nat) : ev x (p ++ q) = evFrom x (ev x p) q := by simp [ev, evFrom]
theorem ev_cons (x c : Nat) (p : List Nat) : ev x (c :: p) = evFrom x c p := by simp [ev, evFrom, gm_zero]

theorem evFrom_xor {x a b : Nat} {p q : List Nat} (hx : x < 256) (ha : a < 256) (hb : b < 256) (hp : Ok p) (hq : Ok q) (hl : p.length = q.length) :
    evFrom x (a ^^^ b) (List.zipWith (· ^^^ ·) p q) = evFrom x a p ^^^ evFrom x b q := by
  induction p generalizing a b q with
  | nil => cases q with
    | nil => rfl
    | cons => simp at hl
  | cons c p ih => cases q with
    | nil => simp at hl
    | cons d q =>
      rw [Ok.cons] at hp hq
      simp only [List.zipWith_cons_cons, evFrom, List.foldl_cons]
      have := ih (a := gm x a ^^^ c) (b := gm x b ^^^ d) (q := q) (xor_lt (gm_lt _ _) hp.1) (xor_lt (gm_lt _ _) hq.1) hp.2 hq.2 (by simpa using hl)
      simp only [evFrom] at this
      rw [gm_xor hx ha hb, ← this]
      congr 1
      simp [Nat.xor_assoc, xlc]
theorem ev_xor {x : Nat} {p q : List Nat} (hx : x < 256) (hp : Ok p) (hq : Ok q) (hl : p.length = q.length) :
    ev x (List.zipWith (· ^^^ ·) p q) = ev x p ^^^ ev x q := evFrom_xor (a := 0) (b := 0) hx (by decide) (by decide) hp hq hl
theorem evFrom_scale {x a s : Nat} {p : List Nat} (hx : x < 256) (ha : a < 256) (hs : s < 256) (hp : Ok p) :
    evFrom x (gm a s) (p.map (gm · s)) = gm (evFrom x a p) s := by
  induction p generalizing a with
  | nil => rfl
  | cons c p ih =>
    rw [Ok.cons] at hp
    simp only [List.map_cons, evFrom, List.foldl_cons]
    rw [← gm_assoc hx ha hs, ← xor_gm hs (gm_lt _ _) hp.1]
    exact ih (xor_lt (gm_lt _ _) hp.1) hp.2
theorem ev_scale {x s : Nat} {p : List Nat} (hx : x < 256) (hs : s < 256) (hp : Ok p) : ev x (p.map (gm · s)) = gm (ev x p) s := by
  have := evFrom_scale (a := 0) hx (by decide) hs hp
  rwa [zero_gm] at this
theorem ev_zeros (x n : Nat) : ev x (List.replicate n 0) = 0 := by
  have := ev_replicate_append x n []
  simpa [ev] using this
/-- powers -/
def pw (x : Nat) : Nat → Nat
  | 0 => 1
  | n + 1 => gm x (pw x n)
theorem pw_lt {x : Nat} (n : Nat) : pw x n < 256 := by
  cases n with
  | zero => exact (show (1 : Nat) < 256 by decide)
  | succ n => exact gm_lt _ _
theorem evFrom_zeros {x a : Nat} (hx : x < 256) (ha : a < 256) (n : Nat) : evFrom x a (List.replicate n 0) = gm (pw x n) a := by
  induction n generalizing a with
  | zero => simp [evFrom, pw, one_gm ha]
  | succ n ih =>
    simp only [List.replicate_succ, evFrom, List.foldl_cons, Nat.xor_zero]
    have := ih (a := gm x a) (gm_lt _ _)
    simp only [evFrom] at this
    rw [this, pw, gm_comm x (pw x n), gm_assoc (pw_lt n) hx ha]
theorem ev_shift {x : Nat} (hx : x < 256) {p : List Nat} (hp : Ok p) (n : Nat) : ev x (p ++ List.replicate n 0) = gm (pw x n) (ev x p) := by
  rw [ev_append, evFrom_zeros hx (ev_lt hp)]
end Go.QGF
