/- The decoder reads the segments: digits, alphanumeric, bytes. Printed by segd.py. -/
import Derived.Test.YtcekbhhpcmhicaaGreatDoorM06
import Derived.Test.YtcekbhhpcmhicaaGreatDoorM24
import Derived.Test.YtcekbhhpcmhicaaGreatDoorM29
import Derived.Deep.DeepCutAuto
namespace Go.Proofs.YtcekbhhpcmhicaaGreatDoor
open Go.RowKit Go.QW
section
variable {w : World} {S g p rb : Nat} {L l : List Nat} {t : List Bool}
/-- append of a known row onto a slice of one's own, for the walk (at at_builtin) -/
theorem wpList_appendN {P : Program} {w : World} {ops : Array Oper} {rest : List Oper} {o : Oper} {a : Act} {Q : Exit → Act → World → Prop} (s x : Operand) {t e : TypeId} (ht : P.underlying t = some (.slice e)) {z : Value} {b : Nat}
    (hi : (P.info? e).map (fun i => (i.zero, i.size, i.bytes)) = some (some z, 1, b)) (hgd : o.guard = none) (ho : o.op = .call { callee := .builtin .append, args := #[s, x], argTypes := #[t, t] }) (hz : z.cells.size = 1) (hb : b ≤ 64) {v : Value} {n : Nat} {xs : List Value} (hs : a.eval s = v) (hown : w.ownsRow 0 e 1 v n xs)
    {ad : Addr} {m c : Nat} {us : List Value} (hx : a.eval x = .slice (some ad) m c) (hm : us.length = m) (hc : ∀ j u, us[j]? = some u → w.cell? (ad.add j) = some u) (h1 : ∀ u, u ∈ us → u.oneCell' = true) (hn : n + m ≤ 1000000000)
    (h : ∀ v' w', w'.ownsRow 0 e 1 v' (n + m) (xs ++ us) → Kp v.ownBlock.toList w w' → (v'.ownBlock = v.ownBlock ∨ v'.ownBlock = some w.heap.size) → wpList P ops Q rest (a.put o.dst v') w') :
    wpList P ops Q (o :: rest) a w := by
  obtain ⟨i, hi1, hz1, hs', hb'⟩ := info_parts hi
  subst hm
  obtain ⟨v', w', hrun, h2, h3, -, h5⟩ := run_append_own_at (P := P) w 0 t o.type e i z 1 b ht hi1 hz1 hs' hb' hz (by decide) v n xs hown ad us.length c us (by simp) hc h1 (by simp only [maxLen]; omega) (by
      have : (n + us.length) * b ≤ (n + us.length) * 64 := Nat.mul_le_mul_left _ hb
      omega) (Nat.zero_le _)
  refine wpList_plain hgd fun _ hK => ?_
  have hop : ∀ {K : Act → World → Prop}, K (a.put o.dst v') w' → o.wp P a w K Q := by
    intro K h'
    unfold Oper.wp execOp
    simp only [ho, resolve, invoke, builtin, Sem.run_bind, Sem.run_pure, Result.andThen_ok, List.map_toArray, List.map_cons, List.map_nil, hs, hx, hrun]
    exact h'
  refine hop (hK _ _ ?_)
  exact (h v' w' h2 ⟨h3.os, h3.tape, h3.output, h3.size, fun k hk hn' => h3.block k hk (fun e => hn' (by rw [← e]; simp))⟩ h5)
/-- the post of a segment of bytes -/
def BytePost (w : World) (S g : Nat) (L : List Nat) (rb bb : Nat) (xs : List Nat) (t : List Bool) (e : Ending) (w' : World) : Prop :=
  ∃ v q b2 c2 I, e = .returned (.tuple #[v, .slice (some ⟨b2, 0, none⟩) 1 c2, .nilIface]) ∧ w'.ownsRow 0 5 1 v xs.length (xs.map U8) ∧ Bs w' S g L q ∧ HasEx L q t ∧ Kp [S, rb, bb] w w' ∧ (∀ k, v.ownBlock = some k → k = rb ∨ w.heap.size ≤ k) ∧
    w'.cell? ⟨b2, 0, none⟩ = some (.slice (some ⟨I, 0, none⟩) xs.length xs.length) ∧ b2 < w'.heap.size ∧ Blk w' I 5 (ints .u8 xs) ∧ (b2 = bb ∨ w.heap.size ≤ b2) ∧ w.heap.size ≤ I
set_option maxHeartbeats 16000000 in
set_option maxRecDepth 100000 in
theorem segBy_any {n bb : Nat} (h : Bs w S g L p) (hH : HasEx L p (l.flatMap (bitsOf 8) ++ t)) (hd : ∀ k, nth l k < 256) (hn : n = l.length) (hl : l.length ≤ 1000) (hrb : Blk w rb 5 (ints .u8 (List.replicate 50 0))) (hg : g ≠ rb) (hbb : Blk w bb 30 #[.slice none 0 0]) :
    Calls Tryz.prog 251 #[.pointer (some ⟨S, 0, none⟩), .slice (some ⟨rb, 0, none⟩) 0 50, .int .i64 n, .pointer none, .slice (some ⟨bb, 0, none⟩) 0 1, .map none] w (BytePost w S g L rb bb l t) := by
  have hgw := h.byt.lt
  have hnl : n ≤ 1000 := by omega
  have hroom0 : p + 8 * n ≤ 8 * L.length := by
    have h1 := hH.1.1
    rw [List.length_append, flat8_length] at h1
    omega
  have HN := Lib.hid hn
  have HD := Lib.hid hd
  have HH := Lib.hid hH
  clear hn hd hH hl
  have dav : decide (((8 * L.length - p : Nat) : Int) < 8 * (n : Int)) = false := by simp; omega
  go_enter Tryz.func251, Tryz.ntmps251
  go_wp2_with fail
  refine (avail_any h).mono ?_
  rintro e w1 ⟨rfl, nr, hw1⟩
  have hk1 : Kp [] w w1 := by rw [hw1]; exact (Kp.refl _ w).drewN nr
  have h1 := h.kp hk1 (by simp) (by simp)
  have hrb1 := hrb.kp hk1 (by simp)
  have hbb1 := hbb.kp hk1 (by simp)
  have hsz1 := hk1.size
  clear hw1
  have hmk := fun w => make_flat (P := Tryz.prog) (t := 30) (e := 5) (by kernel_rfl) (k := .u8) (b := 1) (by kernel_rfl) (by omega) n (n : Int) rfl (by omega) w
  go_wp2_with fail
  clear hmk
  have hI0 := Blk.new w1 5 (ints .u8 (List.replicate n 0))
  have hkm : Kp [] w1 (w1.alloc (.cells (ints .u8 (List.replicate n 0)) 5)) := (Kp.refl [] w1).alloc _
  obtain ⟨w2, hw2⟩ : ∃ w2, w2 = w1.alloc (.cells (ints .u8 (List.replicate n 0)) 5) := ⟨_, rfl⟩
  rw [← hw2] at hI0 hkm ⊢
  clear hw2
  obtain ⟨I, hI⟩ : ∃ I, I = w1.heap.size := ⟨_, rfl⟩
  rw [← hI] at hI0 ⊢
  have hIw : w.heap.size ≤ I := by omega
  have hSl := h.src.lt
  have hrl := hrb.lt
  have hbl := hbb.lt
  have hk2 : Kp [] w w2 := hk1.trans hkm (by intro i hi; simp at hi)
  have h2 := h.kp hk2 (by simp) (by simp)
  have hIS : I ≠ S ∧ I ≠ g ∧ I ≠ rb ∧ I ≠ bb := by omega
  clear hI hkm hk1 h1 hrb1 hbb1
  rw [← tab_zero] at hI0
  go_loopw [16] (fun t16 wr => ∃ i q : Nat, i ≤ n ∧ t16 = .int .i64 (i : Nat) ∧ Blk wr I 5 (ints .u8 (tab n fun k => if k < i then nth l k else 0)) ∧ Bs wr S g L q ∧ Hid (HasEx L q ((l.drop i).flatMap (bitsOf 8) ++ t)) ∧ Kp [S, I] w2 wr) (fun t16 _ => n - (intOf t16).toNat)
  case atStart => exact ⟨0, p, by omega, rfl, by
    have e : (tab n fun k => if k < 0 then nth l k else 0) = tab n fun _ => 0 := tab_congr (fun i _ => by rw [if_neg (by omega)])
    rw [e]; exact hI0, h2, Lib.hid (by simpa using HH.out), Kp.refl _ _⟩
  case round =>
    obtain ⟨i, q, hi, rfl, hIr, hB, HA, hkr⟩ := hrel
    by_cases hlt : i < n
    · have hdi : decide ((i : Int) < (n : Int)) = true := by simp; omega
      obtain ⟨hx, hA2, hroom⟩ := by1 L l q i t (by have := HN.out; omega) HD.out HA.out
      have hb := HD.out i
      have hset := fun (w' : World) (hb : Blk w' I 5 (ints .u8 (tab n fun k => if k < i then nth l k else 0))) => hb.set_ i (.int .u8 (nth l i : Nat))
      have HSET := Lib.hid hset
      obtain ⟨b, hbe⟩ : ∃ b, b = nth l i := ⟨_, rfl⟩
      rw [← hbe] at hx hb
      have HBE := Lib.hid hbe
      have HXV := Lib.hid hx
      have HA2 := Lib.hid hA2
      clear hx hA2 hset hbe
      go_wp2_with fail
      refine (readbitsI_any 8 rfl hB (by omega) (by omega) hroom).mono ?_
      rintro e w3 ⟨rfl, hB3, hk3⟩
      rw [HXV.out]
      have hI3 := hIr.kp hk3 (by simp; omega)
      have ci := hI3.cell i
      rw [ints_get (by rw [tab_length]; exact hlt)] at ci
      obtain ⟨z, hz'⟩ : ∃ z, z = nth (tab n fun k => if k < i then nth l k else 0) i := ⟨_, rfl⟩
      rw [← hz'] at ci
      have fi := hI3.frozen i
      clear hz' hIr
      go_wp2_with fail
      go_roundw
      case rel =>
        have hs := HSET.out _ hI3
        rw [ints_set, tab_fill0, ← HBE.out] at hs
        exact ⟨i + 1, q + 8, by omega, by go_num, hs, ⟨hB3.src.far (hB3.src.ne_ hI3 (by decide)) _, hB3.byt.far (by simp only; omega) _, hB3.lt, hB3.len, hB3.le⟩, HA2, (hkr.trans hk3 (by intro k hk _; simp at hk; simp [hk])).setCell (by simp) _⟩
      case measure => simp [intOf]; omega
    · have hdi : decide ((i : Int) < (n : Int)) = false := by simp; omega
      have hie : i = n := by omega
      have e : (tab n fun k => if k < i then nth l k else 0) = l := by
        have := tab_nth l
        rw [← HN.out] at this
        rw [hie]
        exact (tab_congr (fun k hk => by rw [if_pos hk])).trans this
      rw [e] at hIr
      have hA2 := by0 L l q i t (by have := HN.out; omega) HA.out
      have hkr0 : Kp [S] w wr := (hk2.mono (by simp) : Kp [S] w w2).trans hkr (by intro k hk hlt; simp at hk; simp; omega)
      have hrbr := hrb.kp hkr0 (by simp; exact fun e => by subst e; exact absurd (Blk.ty hrb h.src) (by decide))
      have hbbr := hbb.kp hkr0 (by simp; exact fun e => by subst e; exact absurd (Blk.ty hbb h.src) (by decide))
      have HA3 := Lib.hid hA2
      clear e hie hA2 HA hkr hI0 h2
      have hown0 : wr.ownsRow 0 5 1 (.slice (some ⟨rb, 0, none⟩) 0 50) 0 [] := ⟨rfl, .inr ⟨rb, 50, ints .u8 (List.replicate 50 0), rfl, Nat.zero_le _, hrbr, Nat.zero_le _, by simp [maxLen], by rfl, by simp⟩⟩
      have hcs : ∀ j u, (l.map U8)[j]? = some u → wr.cell? ((⟨I, 0, none⟩ : Addr).add j) = some u := by
        intro j u hu
        rw [addr_add, Nat.zero_add, hIr.cell]
        rw [List.getElem?_map] at hu
        rcases Nat.lt_or_ge j l.length with h | h
        · rw [ints_get h]
          rw [List.getElem?_eq_getElem h] at hu
          injection hu with hu
          rw [nth_get h, ← hu]; rfl
        · rw [List.getElem?_eq_none h] at hu; cases hu
      have h1c : ∀ u, u ∈ l.map U8 → u.oneCell' = true := by
        intro u hu
        rw [List.mem_map] at hu
        obtain ⟨x, _, rfl⟩ := hu
        rfl
      have HO := Lib.hid hown0
      have HCS := Lib.hid hcs
      have H1C := Lib.hid h1c
      clear hown0 hcs h1c
      go_upto_region 10 with (first
        | (at_builtin; refine wpList_appendN (.tmp 49) (.tmp 50) (t := 30) Tryz.underlying30 (e := 5) (z := .int .u8 0) (b := 1) (by kernel_rfl) rfl rfl rfl (by decide) (v := .slice (some ⟨rb, 0, none⟩) 0 50) (n := 0) (xs := []) rfl HO.out (ad := ⟨I, 0, none⟩) (m := n) (c := n) (us := l.map U8) rfl (by rw [List.length_map, HN.out]) HCS.out H1C.out (by omega) ?_; intro v5 w5 hown5 hk5 hv5))
      have hk5' : Kp [rb] wr w5 := hk5
      have hIr5 := hIr.kp hk5' (by simp; omega)
      have hB5 := hB.kp hk5' (by simp; exact fun e => by subst e; exact absurd (Blk.ty hrb h.src) (by decide)) (by simpa using hg)
      have hbb5 := hbbr.kp hk5' (by simp; exact fun e => by subst e; exact absurd (Blk.ty hrb hbb) (by decide))
      have hs5 := hk5'.size
      have hsr := hkr0.size
      have hownb : w5.ownsRow 0 30 1 (.slice (some ⟨bb, 0, none⟩) 0 1) 0 [] := ⟨rfl, .inr ⟨bb, 1, #[.slice none 0 0], rfl, Nat.zero_le _, hbb5, Nat.zero_le _, by simp [maxLen], by rfl, by simp⟩⟩
      have HOB := Lib.hid hownb
      have HO5 := Lib.hid hown5
      have HV5 := Lib.hid hv5
      have HK5 := Lib.hid hk5'
      clear hownb hown5 hv5 hk5 hk5'
      go_wp2_with (first
        | (at_builtin; refine wpList_append1 (.tmp 52) (.tmp 54) (t := 31) Tryz.underlying31 (e := 30) (z := .slice none 0 0) (b := 24) (by kernel_rfl) rfl rfl rfl (by decide) (v := .slice (some ⟨bb, 0, none⟩) 0 1) (n := 0) (xs := []) rfl (HOB.out.alloc _) (ad := ⟨w5.heap.size, 0, none⟩) (c := 1) (u := .slice (some ⟨I, 0, none⟩) n n) rfl ((Blk.new w5 _ _).cell 0) rfl (by omega) ?_; intro v6 w6 hown6 hk6 hv6))
      obtain ⟨b2, c2, hv6e, hb2l, hc2, -, hc2c, -, -⟩ := ownsRow_form hown6 (by omega)
      subst hv6e
      have hk6' : Kp [bb] w5 w6 := ((Kp.refl [bb] w5).alloc _).trans hk6 (by intro i hi _; simpa [Value.ownBlock] using hi)
      have hIr6 := hIr5.kp hk6' (by simp; omega)
      have hB6 := hB5.kp hk6' (by simp; exact fun e => by subst e; exact absurd (Blk.ty hbb h.src) (by decide)) (by simp; exact fun e => by subst e; exact absurd (Blk.ty hbb h.byt) (by decide))
      have hnb : bb ∉ v5.ownBlock.toList := own_ne HO5.out hbb5 (by decide)
      have hown6' := ownsRow_kp HO5.out hk6' (fun k hk' hS => hnb (by rw [hk']; simp only [List.mem_cons, List.not_mem_nil, or_false] at hS; simp [hS]))
      rw [List.nil_append, Nat.zero_add, HN.out] at hown6'
      have hc0 := hc2c 0 (by omega)
      simp only [List.nil_append, List.getElem?_cons_zero] at hc0
      go_ret3
      rw [HN.out] at hc0
      refine ⟨v5, q, b2, c2, I, rfl, hown6', hB6, HA3.out, ((hkr0.mono (by intro k hk _; simp at hk; simp [hk]) : Kp [S, rb, bb] w wr).trans HK5.out (by intro k hk _; simp at hk; simp [hk])).trans hk6' (by intro k hk _; simp at hk; simp [hk]), ?_, hc0, hb2l, hIr6, ?_, hIw⟩
      · intro k hk
        rcases HV5.out with h5 | h5
        · rw [h5] at hk
          simp only [Value.ownBlock, Option.some.injEq] at hk
          exact .inl hk.symm
        · rw [h5] at hk
          injection hk with hk
          omega
      · rcases hv6 with h6 | h6
        · simp only [Value.ownBlock, Option.some.injEq] at h6
          exact .inl h6
        · simp only [Value.ownBlock, Option.some.injEq, World.size_alloc] at h6
          omega
end
end Go.Proofs.YtcekbhhpcmhicaaGreatDoor
