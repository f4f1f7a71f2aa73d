/- Plain laws. -/
import Derived.Test.YtcekbhhpcmhicaaGreatDoorM02
/- Polynomials as the package computes them; a codeword that was encoded is zero at every root. -/
namespace Go.QGF

def norm (p : List Nat) : List Nat := match p.dropWhile (· == 0) with
  | [] => [0]
  | q => q
def addP (p q : List Nat) : List Nat :=
  if p.headD 0 = 0 then q else if q.headD 0 = 0 then p else
  if q.length < p.length then norm (p.take (p.length - q.length) ++ List.zipWith (· ^^^ ·) q (p.drop (p.length - q.length)))
  else norm (q.take (q.length - p.length) ++ List.zipWith (· ^^^ ·) p (q.drop (q.length - p.length)))
def monoMul (p : List Nat) (d c : Nat) : List Nat := if c = 0 then [0] else norm (p.map (gm · c) ++ List.replicate d 0)
def mono (d c : Nat) : List Nat := if c = 0 then [0] else c :: List.replicate d 0
def rowStep (q : List Nat) (a i : Nat) (acc : List Nat) (j : Nat) : List Nat := acc.set (i + j) (acc.getD (i + j) 0 ^^^ gm a (q.getD j 0))
def convRow (q : List Nat) (a i : Nat) (acc : List Nat) (n : Nat) : List Nat := (List.range n).foldl (rowStep q a i) acc
def convTo (p q : List Nat) (n : Nat) : List Nat := (List.range n).foldl (fun acc i => convRow q (p.getD i 0) i acc q.length) (List.replicate (p.length + q.length - 1) 0)
def mulP (p q : List Nat) : List Nat := if p.headD 0 = 0 ∨ q.headD 0 = 0 then [0] else norm (convTo p q p.length)

/-- a polynomial as the package keeps it -/
structure V (p : List Nat) : Prop where
  ne : p ≠ []
  ok : Ok p
  hd : p.length = 1 ∨ p.headD 0 ≠ 0

theorem norm_of_ne {p : List Nat} (h : p.headD 0 ≠ 0) : norm p = p := by
  cases p with
  | nil => simp at h
  | cons c p =>
    simp only [List.headD_cons] at h
    have : (c == 0) = false := by simpa using h
    simp [norm, this]
theorem dropWhile_split (p : List Nat) : p = List.replicate (p.length - (p.dropWhile (· == 0)).length) 0 ++ p.dropWhile (· == 0) := by
  induction p with
  | nil => rfl
  | cons c p ih =>
    by_cases h : c = 0
    · subst h
      have hl : (p.dropWhile (· == 0)).length ≤ p.length := (List.dropWhile_suffix _).length_le
      simp only [List.dropWhile_cons, beq_self_eq_true, if_true, List.length_cons]
      rw [show p.length + 1 - (p.dropWhile (· == 0)).length = (p.length - (p.dropWhile (· == 0)).length) + 1 by omega, List.replicate_succ, List.cons_append, ← ih]
    · have : (c == 0) = false := by simpa using h
      simp [this]
theorem dropWhile_head (p : List Nat) : p.dropWhile (· == 0) = [] ∨ (p.dropWhile (· == 0)).headD 0 ≠ 0 := by
  induction p with
  | nil => exact .inl rfl
  | cons c p ih =>
    by_cases h : c = 0
    · subst h; simpa [List.dropWhile_cons] using ih
    · right
      have : (c == 0) = false := by simpa using h
      simpa [List.dropWhile_cons, this] using h
theorem norm_V {p : List Nat} (hp : Ok p) : V (norm p) := by
  unfold norm
  have hd := dropWhile_head p
  have hok : Ok (p.dropWhile (· == 0)) := fun c hc => hp c ((List.dropWhile_suffix _).subset hc)
  revert hd hok
  cases p.dropWhile (· == 0) with
  | nil => exact fun _ _ => ⟨by simp, by intro c hc; simp at hc; omega, .inl rfl⟩
  | cons c q => exact fun hd hok => ⟨by simp, hok, .inr (hd.resolve_left (by simp))⟩
theorem ev_norm {x : Nat} (p : List Nat) : ev x (norm p) = ev x p := by
  conv => rhs; rw [dropWhile_split p, ev_replicate_append]
  unfold norm
  cases p.dropWhile (· == 0) with
  | nil => simp [ev, gm_zero]
  | cons c q => rfl
theorem norm_length_le {p : List Nat} (h : p ≠ []) : (norm p).length ≤ p.length := by
  unfold norm
  have hl : (p.dropWhile (· == 0)).length ≤ p.length := (List.dropWhile_suffix _).length_le
  revert hl
  cases p.dropWhile (· == 0) with
  | nil => intro _; cases p with
    | nil => exact absurd rfl h
    | cons => simp
  | cons c q => intro h; exact h
theorem norm_cons_zero_length {p : List Nat} (h : p ≠ []) : (norm (0 :: p)).length ≤ p.length := by
  have : norm (0 :: p) = norm p := by simp [norm]
  rw [this]; exact norm_length_le h

theorem zipWith_ok {p q : List Nat} (hp : Ok p) (hq : Ok q) : Ok (List.zipWith (· ^^^ ·) p q) := by
  induction p generalizing q with
  | nil => simp [Ok]
  | cons c p ih => cases q with
    | nil => simp [Ok]
    | cons d q =>
      rw [Ok.cons] at hp hq
      rw [List.zipWith_cons_cons, Ok.cons]
      exact ⟨xor_lt hp.1 hq.1, ih hp.2 hq.2⟩
theorem Ok.take {p : List Nat} (h : Ok p) (n : Nat) : Ok (p.take n) := fun c hc => h c (List.mem_of_mem_take hc)
theorem Ok.drop {p : List Nat} (h : Ok p) (n : Nat) : Ok (p.drop n) := fun c hc => h c (List.mem_of_mem_drop hc)
theorem Ok.scale {p : List Nat} (c : Nat) : Ok (p.map (gm · c)) := by
  intro d hd; rw [List.mem_map] at hd; obtain ⟨e, _, rfl⟩ := hd; exact gm_lt _ _
theorem Ok.headD {p : List Nat} (h : Ok p) : p.headD 0 < 256 := by
  cases p with
  | nil => decide
  | cons c p => exact h c (by simp)
theorem Ok.getD {p : List Nat} (h : Ok p) (i : Nat) : p.getD i 0 < 256 := by
  rw [List.getD_eq_getElem?_getD]
  cases hi : p[i]? with
  | none => decide
  | some c => exact h c (List.mem_of_getElem? hi)

/-- the longer one with the shorter one upon its end -/
theorem ev_upon {x : Nat} (hx : x < 256) {p q : List Nat} (hp : Ok p) (hq : Ok q) (hl : q.length ≤ p.length) :
    ev x (p.take (p.length - q.length) ++ List.zipWith (· ^^^ ·) q (p.drop (p.length - q.length))) = ev x p ^^^ ev x q := by
  have e : p.take (p.length - q.length) ++ List.zipWith (· ^^^ ·) q (p.drop (p.length - q.length)) =
      List.zipWith (· ^^^ ·) p (List.replicate (p.length - q.length) 0 ++ q) := by
    conv => rhs; arg 2; rw [← List.take_append_drop (p.length - q.length) p]
    rw [List.zipWith_append (by simp)]
    congr 1
    · have : ∀ l : List Nat, l = List.zipWith (· ^^^ ·) l (List.replicate l.length 0) := by
        intro l; induction l with
        | nil => rfl
        | cons c l ih => simp only [List.length_cons, List.replicate_succ, List.zipWith_cons_cons, Nat.xor_zero]; rw [← ih]
      have h := this (p.take (p.length - q.length))
      rw [List.length_take, Nat.min_eq_left (by omega)] at h
      exact h
    · rw [List.zipWith_comm]
      congr 1
      funext a b
      exact Nat.xor_comm _ _
  rw [e, ev_xor hx hp (Ok.append.2 ⟨.replicate _, hq⟩) (by simp; omega), ev_replicate_append]

theorem V.zero_of_hd {p : List Nat} (h : V p) (h0 : p.headD 0 = 0) : p = [0] := by
  have hl := h.hd.resolve_right (by omega)
  cases p with
  | nil => simp at hl
  | cons c p => cases p with
    | nil => simp at h0; rw [h0]
    | cons => simp at hl
theorem ev_zero (x : Nat) : ev x [0] = 0 := by simp [ev, gm_zero]
theorem addP_V {p q : List Nat} (hp : V p) (hq : V q) : V (addP p q) := by
  unfold addP
  split
  · exact hq
  split
  · exact hp
  split
  · exact norm_V (Ok.append.2 ⟨hp.ok.take _, zipWith_ok hq.ok (hp.ok.drop _)⟩)
  · exact norm_V (Ok.append.2 ⟨hq.ok.take _, zipWith_ok hp.ok (hq.ok.drop _)⟩)
theorem ev_addP {x : Nat} (hx : x < 256) {p q : List Nat} (hp : V p) (hq : V q) : ev x (addP p q) = ev x p ^^^ ev x q := by
  unfold addP
  split
  · rename_i h; rw [hp.zero_of_hd h, ev_zero, Nat.zero_xor]
  split
  · rename_i h; rw [hq.zero_of_hd h, ev_zero, Nat.xor_zero]
  split
  · rw [ev_norm, ev_upon hx hp.ok hq.ok (by omega)]
  · rw [ev_norm, ev_upon hx hq.ok hp.ok (by omega), Nat.xor_comm]
theorem addP_cancel {p q : List Nat} (hp : p.headD 0 ≠ 0) (h : p.headD 0 = q.headD 0) (hl : p.length = q.length) (h2 : 2 ≤ p.length) :
    (addP p q).length < p.length := by
  unfold addP
  rw [if_neg hp, if_neg (by rw [← h]; exact hp), if_neg (by omega)]
  rw [show q.length - p.length = 0 from by omega]
  cases p with
  | nil => simp at h2
  | cons c p => cases q with
    | nil => simp at hl
    | cons d q =>
      simp only [List.headD_cons] at h; subst h
      simp only [List.take_zero, List.drop_zero, List.nil_append, List.zipWith_cons_cons, Nat.xor_self]
      have := norm_cons_zero_length (p := List.zipWith (fun x1 x2 => x1 ^^^ x2) p q) (by
        intro e; have e' := congrArg List.length e
        simp only [List.length_zipWith, List.length_nil, List.length_cons] at e' hl h2; omega)
      simp only [List.length_zipWith, List.length_cons] at this hl ⊢
      omega

theorem headD_append {p q : List Nat} (h : p ≠ []) : (p ++ q).headD 0 = p.headD 0 := by
  cases p with
  | nil => exact absurd rfl h
  | cons => rfl
theorem headD_map (p : List Nat) (c : Nat) : (p.map (gm · c)).headD 0 = gm (p.headD 0) c := by
  cases p with
  | nil => simp [zero_gm]
  | cons => rfl
theorem gm_ne {a b : Nat} (ha : a ≠ 0) (hb : b ≠ 0) : gm a b ≠ 0 := by
  unfold gm; rw [if_neg (by omega)]; exact ex_ne _
theorem monoMul_V {p : List Nat} (d c : Nat) : V (monoMul p d c) := by
  unfold monoMul; split
  · exact ⟨by simp, by intro e he; simp at he; omega, .inl rfl⟩
  · exact norm_V (Ok.append.2 ⟨.scale _, .replicate _⟩)
theorem ev_monoMul {x : Nat} (hx : x < 256) {p : List Nat} (hp : Ok p) (d : Nat) {c : Nat} (hc : c < 256) :
    ev x (monoMul p d c) = gm (pw x d) (gm (ev x p) c) := by
  unfold monoMul; split
  · rename_i h; subst h; rw [ev_zero, gm_zero, gm_zero]
  · rw [ev_norm, ev_shift hx (.scale _), ev_scale hx hc hp]
theorem monoMul_eq {p : List Nat} (hp : p.headD 0 ≠ 0) (d : Nat) {c : Nat} (hc : c ≠ 0) : monoMul p d c = p.map (gm · c) ++ List.replicate d 0 := by
  unfold monoMul
  rw [if_neg hc]
  have hne : p.map (gm · c) ≠ [] := by intro e; rw [List.map_eq_nil_iff] at e; subst e; simp at hp
  exact norm_of_ne (by rw [headD_append hne, headD_map]; exact gm_ne hp hc)
theorem mono_V (d : Nat) {c : Nat} (hc : c < 256) : V (mono d c) := by
  unfold mono; split
  · exact ⟨by simp, by intro e he; simp at he; omega, .inl rfl⟩
  · exact ⟨by simp, Ok.cons.2 ⟨hc, .replicate _⟩, .inr (by simpa)⟩
theorem mono_norm {d c : Nat} (hc : c ≠ 0) : norm (c :: List.replicate d 0) = mono d c := by
  unfold mono; rw [if_neg hc]; exact norm_of_ne (by simpa)

/-! ### the product -/
theorem rowStep_length (q : List Nat) (a i : Nat) (acc : List Nat) (j : Nat) : (rowStep q a i acc j).length = acc.length := by simp [rowStep]
theorem rowStep_ok {q : List Nat} {a i : Nat} {acc : List Nat} (h : Ok acc) (j : Nat) : Ok (rowStep q a i acc j) := by
  intro c hc
  rcases List.mem_or_eq_of_mem_set hc with h' | rfl
  · exact h c h'
  · exact xor_lt (h.getD _) (gm_lt _ _)
theorem convRow_succ (q : List Nat) (a i : Nat) (acc : List Nat) (n : Nat) : convRow q a i acc (n + 1) = rowStep q a i (convRow q a i acc n) n := by
  simp [convRow, List.range_succ]
theorem convRow_length (q : List Nat) (a i : Nat) (acc : List Nat) (n : Nat) : (convRow q a i acc n).length = acc.length := by
  induction n with
  | zero => rfl
  | succ n ih => rw [convRow_succ, rowStep_length, ih]
theorem convRow_ok {q : List Nat} {a i : Nat} {acc : List Nat} (h : Ok acc) (n : Nat) : Ok (convRow q a i acc n) := by
  induction n with
  | zero => exact h
  | succ n ih => rw [convRow_succ]; exact rowStep_ok ih _
theorem convTo_succ (p q : List Nat) (n : Nat) : convTo p q (n + 1) = convRow q (p.getD n 0) n (convTo p q n) q.length := by
  simp [convTo, List.range_succ]
theorem convTo_length (p q : List Nat) (n : Nat) : (convTo p q n).length = p.length + q.length - 1 := by
  induction n with
  | zero => simp [convTo]
  | succ n ih => rw [convTo_succ, convRow_length, ih]
theorem convTo_ok (p q : List Nat) (n : Nat) : Ok (convTo p q n) := by
  induction n with
  | zero => simp [convTo]; exact .replicate _
  | succ n ih => rw [convTo_succ]; exact convRow_ok ih _

theorem pw_succ' (x n : Nat) : pw x (n + 1) = gm (pw x n) x := by rw [pw, gm_comm]
theorem pw_add {x : Nat} (hx : x < 256) (m n : Nat) : pw x (m + n) = gm (pw x m) (pw x n) := by
  induction m with
  | zero => rw [Nat.zero_add, pw, one_gm (pw_lt n)]
  | succ m ih => rw [show m + 1 + n = (m + n) + 1 by omega, pw, pw, ih, gm_assoc hx (pw_lt m) (pw_lt n)]

theorem ev_unit {x : Nat} (hx : x < 256) {c : Nat} (hc : c < 256) (n : Nat) : ev x (c :: List.replicate n 0) = gm (pw x n) c := by
  rw [ev_cons, evFrom_zeros hx hc]
theorem set_eq_zip (l : List Nat) (k c : Nat) (hk : k < l.length) :
    l.set k (l.getD k 0 ^^^ c) = List.zipWith (· ^^^ ·) l (List.replicate k 0 ++ c :: List.replicate (l.length - 1 - k) 0) := by
  induction l generalizing k with
  | nil => simp at hk
  | cons d l ih =>
    cases k with
    | zero =>
      simp only [List.set_cons_zero, List.getD_cons_zero, List.replicate_zero, List.nil_append, List.length_cons, Nat.add_sub_cancel, Nat.sub_zero, List.zipWith_cons_cons]
      congr 1
      clear ih
      induction l with
      | nil => rfl
      | cons e l ih => simp only [List.length_cons, List.replicate_succ, List.zipWith_cons_cons, Nat.xor_zero]; rw [← ih (by simp)]
    | succ k =>
      simp only [List.set_cons_succ, List.getD_cons_succ, List.replicate_succ, List.cons_append, List.zipWith_cons_cons, Nat.xor_zero, List.length_cons]
      rw [ih k (by simpa using hk), show l.length + 1 - 1 - (k + 1) = l.length - 1 - k by omega]
theorem ev_set {x : Nat} (hx : x < 256) {l : List Nat} (hl : Ok l) {k c : Nat} (hk : k < l.length) (hc : c < 256) :
    ev x (l.set k (l.getD k 0 ^^^ c)) = ev x l ^^^ gm (pw x (l.length - 1 - k)) c := by
  rw [set_eq_zip l k c hk, ev_xor hx hl (Ok.append.2 ⟨.replicate _, Ok.cons.2 ⟨hc, .replicate _⟩⟩) (by simp; omega), ev_replicate_append, ev_unit hx hc]

theorem take_succ_getD (q : List Nat) (n : Nat) (h : n < q.length) : q.take (n + 1) = q.take n ++ [q.getD n 0] := by
  rw [List.take_succ_eq_append_getElem h, List.getD_eq_getElem?_getD, List.getElem?_eq_getElem h]; rfl
theorem ev_snoc (x : Nat) (p : List Nat) (c : Nat) : ev x (p ++ [c]) = gm x (ev x p) ^^^ c := by simp [ev]
/-- a row adds a times what the second one has so far, moved -/
theorem ev_convRow {x : Nat} (hx : x < 256) {q : List Nat} (hq : Ok q) {a : Nat} (ha : a < 256) {i : Nat} {acc : List Nat} (hacc : Ok acc) (n m : Nat) (hn : n ≤ q.length)
    (hlen : acc.length = m + i + n) : ev x (convRow q a i acc n) = ev x acc ^^^ gm (pw x m) (gm a (ev x (q.take n))) := by
  induction n generalizing m with
  | zero => simp [convRow, ev, gm_zero]
  | succ n ih =>
    have hc := hq.getD n
    rw [convRow_succ, rowStep, ev_set hx (convRow_ok hacc _) (by rw [convRow_length]; omega) (gm_lt _ _), convRow_length, ih (m + 1) (by omega) (by omega), take_succ_getD q n (by omega), ev_snoc]
    rw [show acc.length - 1 - (i + n) = m by omega]
    have hev := ev_lt (x := x) (hq.take n)
    rw [gm_xor ha (gm_lt _ _) hc, gm_xor (pw_lt m) (gm_lt _ _) (gm_lt _ _), pw_succ', Nat.xor_assoc]
    congr 2
    rw [gm_assoc (pw_lt m) hx (gm_lt _ _)]
    congr 1
    rw [← gm_assoc hx ha hev, ← gm_assoc ha hx hev, gm_comm a x]
theorem ev_convTo {x : Nat} (hx : x < 256) {p q : List Nat} (hp : Ok p) (hq : Ok q) (n m : Nat) (hn : p.length = n + m) (h1 : 1 ≤ p.length) (h2 : 1 ≤ q.length) :
    ev x (convTo p q n) = gm (pw x m) (gm (ev x (p.take n)) (ev x q)) := by
  induction n generalizing m with
  | zero => rw [List.take_zero]; simp only [convTo, List.range_zero, List.foldl_nil, ev_zeros]; simp [ev, zero_gm, gm_zero]
  | succ n ih =>
    have hc := hp.getD n
    have hev := ev_lt (x := x) hq
    have hep := ev_lt (x := x) (hp.take n)
    rw [convTo_succ, ev_convRow hx hq hc (convTo_ok _ _ _) q.length m (Nat.le_refl _) (by rw [convTo_length]; omega), ih (m + 1) (by omega), List.take_length, take_succ_getD p n (by omega), ev_snoc]
    rw [xor_gm hev (gm_lt _ _) hc, gm_xor (pw_lt m) (gm_lt _ _) (gm_lt _ _), pw_succ', gm_assoc (pw_lt m) hx (gm_lt _ _), gm_assoc hx hep hev]
theorem ev_mulP {x : Nat} (hx : x < 256) {p q : List Nat} (hp : V p) (hq : V q) : ev x (mulP p q) = gm (ev x p) (ev x q) := by
  unfold mulP
  have h1 : 1 ≤ p.length := by cases p with
    | nil => exact absurd rfl hp.ne
    | cons => simp
  have h2 : 1 ≤ q.length := by cases q with
    | nil => exact absurd rfl hq.ne
    | cons => simp
  split
  · rename_i h
    rcases h with h | h
    · rw [hp.zero_of_hd h, ev_zero, zero_gm]
    · rw [hq.zero_of_hd h, ev_zero, gm_zero]
  · rw [ev_norm, ev_convTo hx hp.ok hq.ok p.length 0 (by omega) h1 h2, List.take_length, pw, one_gm (gm_lt _ _)]
theorem mulP_V {p q : List Nat} : V (mulP p q) := by
  unfold mulP; split
  · exact ⟨by simp, by intro e he; simp at he; omega, .inl rfl⟩
  · exact norm_V (convTo_ok _ _ _)

/-- the head of the product -/
theorem headD_set_succ (l : List Nat) (k c : Nat) : (l.set (k + 1) c).headD 0 = l.headD 0 := by cases l <;> rfl
theorem convRow_headD (q : List Nat) (a i : Nat) (acc : List Nat) (n : Nat) : (convRow q a (i + 1) acc n).headD 0 = acc.headD 0 := by
  induction n with
  | zero => rfl
  | succ n ih => rw [convRow_succ, rowStep, show i + 1 + n = (i + n) + 1 by omega, headD_set_succ, ih]
theorem convRow_headD0 (q : List Nat) (a : Nat) (acc : List Nat) (n : Nat) (h : acc ≠ []) : (convRow q a 0 acc (n + 1)).headD 0 = acc.headD 0 ^^^ gm a (q.getD 0 0) := by
  induction n with
  | zero =>
    cases acc with
    | nil => exact absurd rfl h
    | cons c acc => simp [convRow, List.range_succ, rowStep]
  | succ n ih => rw [convRow_succ, rowStep, show 0 + (n + 1) = n + 1 by omega, headD_set_succ, ih]
theorem convTo_headD (p q : List Nat) (n : Nat) (h1 : 1 ≤ p.length) (h2 : 1 ≤ q.length) : (convTo p q (n + 1)).headD 0 = gm (p.headD 0) (q.headD 0) := by
  induction n with
  | zero =>
    obtain ⟨m, hm⟩ : ∃ m, q.length = m + 1 := ⟨q.length - 1, by omega⟩
    obtain ⟨k, hk⟩ : ∃ k, p.length + q.length - 1 = k + 1 := ⟨p.length + q.length - 2, by omega⟩
    rw [convTo_succ, hm, convRow_headD0 _ _ _ _ (by simp [convTo, hk, List.replicate_succ])]
    simp only [convTo, List.range_zero, List.foldl_nil, hk, List.replicate_succ, List.headD_cons, Nat.zero_xor]
    congr 1
    · cases p <;> simp
    · cases q <;> simp
  | succ n ih => rw [convTo_succ, convRow_headD, ih]
theorem mulP_eq {p q : List Nat} (hp : p.headD 0 ≠ 0) (hq : q.headD 0 ≠ 0) : mulP p q = convTo p q p.length ∧ (mulP p q).headD 0 = gm (p.headD 0) (q.headD 0) ∧ (mulP p q).length = p.length + q.length - 1 := by
  have h1 : 1 ≤ p.length := by cases p with
    | nil => simp at hp
    | cons => simp
  have h2 : 1 ≤ q.length := by cases q with
    | nil => simp at hq
    | cons => simp
  obtain ⟨m, hm⟩ : ∃ m, p.length = m + 1 := ⟨p.length - 1, by omega⟩
  have hh := convTo_headD p q m h1 h2
  have e : mulP p q = convTo p q p.length := by
    unfold mulP; rw [if_neg (by rintro (h | h); exact hp h; exact hq h)]
    exact norm_of_ne (by rw [hm, hh]; exact gm_ne hp hq)
  refine ⟨e, ?_, ?_⟩
  · rw [e, hm, hh]
  · rw [e, convTo_length]

/-! ### the generator -/
def gen : Nat → List Nat
  | 0 => [1]
  | d + 1 => mulP (gen d) [1, ex d]
theorem gen_spec (d : Nat) : V (gen d) ∧ (gen d).length = d + 1 ∧ (gen d).headD 0 = 1 ∧ ∀ i, i < d → ev (ex i) (gen d) = 0 := by
  induction d with
  | zero => exact ⟨⟨by simp [gen], by intro c hc; simp [gen] at hc; omega, .inl rfl⟩, rfl, rfl, fun i h => by omega⟩
  | succ d ih =>
    obtain ⟨hv, hl, hh, hr⟩ := ih
    have hq : V [1, ex d] := ⟨by simp, Ok.cons.2 ⟨by decide, Ok.cons.2 ⟨ex_lt _, .nil⟩⟩, .inr (by simp)⟩
    have he := mulP_eq (p := gen d) (q := [1, ex d]) (by rw [hh]; decide) (by simp)
    refine ⟨mulP_V, ?_, ?_, ?_⟩
    · rw [gen, he.2.2, hl]; simp
    · rw [gen, he.2.1, hh]; exact one_gm (b := 1) (by decide)
    · intro i hi
      rw [gen, ev_mulP (ex_lt i) hv hq]
      by_cases h : i < d
      · rw [hr i h, zero_gm]
      · have : i = d := by omega
        subst this
        have : ev (ex i) [1, ex i] = 0 := by simp [ev, gm_zero, gm_one (ex_lt i)]
        rw [this, gm_zero]

/-! ### the rest -/
theorem addP_length {p q : List Nat} (hp : p ≠ []) (hq : q ≠ []) : (addP p q).length ≤ max p.length q.length := by
  have h1 : 0 < p.length := List.length_pos_iff.2 hp
  have h2 : 0 < q.length := List.length_pos_iff.2 hq
  unfold addP
  split
  · omega
  split
  · omega
  split
  · have := norm_length_le (p := p.take (p.length - q.length) ++ List.zipWith (fun x1 x2 => x1 ^^^ x2) q (p.drop (p.length - q.length))) (by
      intro e; have := congrArg List.length e; simp only [List.length_append, List.length_take, List.length_zipWith, List.length_drop, List.length_nil] at this; omega)
    simp only [List.length_append, List.length_take, List.length_zipWith, List.length_drop] at this
    omega
  · have := norm_length_le (p := q.take (q.length - p.length) ++ List.zipWith (fun x1 x2 => x1 ^^^ x2) p (q.drop (q.length - p.length))) (by
      intro e; have := congrArg List.length e; simp only [List.length_append, List.length_take, List.length_zipWith, List.length_drop, List.length_nil] at this; omega)
    simp only [List.length_append, List.length_take, List.length_zipWith, List.length_drop] at this
    omega
theorem mono_length (d c : Nat) : (mono d c).length ≤ d + 1 := by unfold mono; split <;> simp
theorem V.pos {p : List Nat} (h : V p) : 0 < p.length := List.length_pos_iff.2 h.ne
/-- what division keeps: a rest that agrees with the whole at the roots -/
def RestOf (g info r : List Nat) : Prop := V r ∧ r.length ≤ info.length ∧ ∀ x, x < 256 → ev x g = 0 → ev x r = ev x info
theorem RestOf.refl {g info : List Nat} (h : V info) : RestOf g info info := ⟨h, Nat.le_refl _, fun _ _ _ => rfl⟩
/-- one round of division by a generator -/
theorem RestOf.step {g info r : List Nat} (hg : V g) (hg1 : g.headD 0 = 1) (h2 : 2 ≤ g.length) (h : RestOf g info r) (hl : g.length ≤ r.length) (h0 : r.headD 0 ≠ 0) :
    RestOf g info (addP r (monoMul g (r.length - g.length) (r.headD 0))) ∧ (addP r (monoMul g (r.length - g.length) (r.headD 0))).length < r.length := by
  obtain ⟨hv, hle, hr⟩ := h
  have hc := hv.ok.headD
  have e := monoMul_eq (p := g) (by rw [hg1]; decide) (r.length - g.length) h0
  have hcan : (addP r (monoMul g (r.length - g.length) (r.headD 0))).length < r.length := by
    refine addP_cancel h0 ?_ ?_ (by omega)
    · rw [e, headD_append (by intro e'; rw [List.map_eq_nil_iff] at e'; subst e'; simp at h2), headD_map, hg1, one_gm hc]
    · rw [e]; simp; omega
  refine ⟨⟨addP_V hv (monoMul_V _ _), by omega, fun x hx hx0 => ?_⟩, hcan⟩
  rw [ev_addP hx hv (monoMul_V _ _), ev_monoMul hx hg.ok _ hc, hx0, zero_gm, gm_zero, Nat.xor_zero]
  exact hr x hx hx0

/-- what encoding lays behind the data -/
theorem coded {data : List Nat} (hd : Ok data) (ec : Nat) {r : List Nat} (h : RestOf (gen ec) (monoMul (norm data) ec 1) r) (hl : r.length ≤ ec) (i : Nat) (hi : i < ec) :
    ev (ex i) (data ++ (List.replicate (ec - r.length) 0 ++ r)) = 0 := by
  have hx := ex_lt i
  have hr := h.2.2 (ex i) hx ((gen_spec ec).2.2.2 i hi)
  have hn : V (norm data) := norm_V hd
  rw [ev_monoMul hx hn.ok _ (by decide), ev_norm, gm_one (ev_lt hd)] at hr
  have e : data ++ (List.replicate (ec - r.length) 0 ++ r) = List.zipWith (· ^^^ ·) (data ++ List.replicate ec 0) (List.replicate data.length 0 ++ (List.replicate (ec - r.length) 0 ++ r)) := by
    rw [List.zipWith_append (by simp)]
    congr 1
    · clear hr hn h hd
      induction data with
      | nil => rfl
      | cons c l ih => simp only [List.length_cons, List.replicate_succ, List.zipWith_cons_cons, Nat.xor_zero]; rw [← ih]
    · have : ∀ l : List Nat, l = List.zipWith (· ^^^ ·) (List.replicate l.length 0) l := by
        intro l; induction l with
        | nil => rfl
        | cons c l ih => simp only [List.length_cons, List.replicate_succ, List.zipWith_cons_cons, Nat.zero_xor]; rw [← ih]
      have h' := this (List.replicate (ec - r.length) 0 ++ r)
      rw [List.length_append, List.length_replicate, show ec - r.length + r.length = ec by omega] at h'
      exact h'
  rw [e, ev_xor hx (Ok.append.2 ⟨hd, .replicate _⟩) (Ok.append.2 ⟨.replicate _, Ok.append.2 ⟨.replicate _, h.1.ok⟩⟩) (by simp; omega), ev_shift hx hd, ev_replicate_append, ev_replicate_append, hr, Nat.xor_self]
end Go.QGF
