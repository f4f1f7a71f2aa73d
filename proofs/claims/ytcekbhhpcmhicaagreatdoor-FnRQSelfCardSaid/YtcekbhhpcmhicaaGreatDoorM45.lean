/- A view as an argument: opened to its numbers, shut again. -/
import Derived.Test.YtcekbhhpcmhicaaGreatDoorM44
import Derived.ChangeMaps5
import Derived.OpenShut
namespace Go.Proofs.YtcekbhhpcmhicaaGreatDoor
open Go.ChangeShapes Go.WideShapes Go.RowKit
section
variable {H : Type} {enc : TypeId × Value → H} {W : World} {base : Nat} {spare : Nat → Bool} {held : Bool}
theorem u8_nat {n : Int} (h : (Lit.int .u8 n).wf = true) : ∃ k : Nat, n = (k : Int) ∧ k < 256 := by
  have h1 : 0 ≤ n ∧ n < 256 := by
    simp only [Lit.wf, Bool.and_eq_true, decide_eq_true_eq] at h
    have e1 : IntKind.u8.min = 0 := rfl
    have e2 : IntKind.u8.max = 255 := rfl
    omega
  exact ⟨n.toNat, by omega, by omega⟩
theorem open_u8 {n : Nat} {c : Value} {y : Option (DataW H × List MemPlace)} (h : DataW.trod enc Tryz.prog W base spare held n 5 [c] = y) (hy : ∃ z, y = some z) : ∃ k : Nat, k < 256 ∧ c = .int .u8 (k : Int) ∧ y = some (.lit (.int .u8 (k : Int)), []) ∧ (Lit.int .u8 (k : Int)).wf = true := by
  obtain ⟨z, rfl⟩ := hy
  obtain ⟨n', hc, hx, hw⟩ := DataW.trod_int Tryz.underlying5 h
  obtain ⟨k, rfl, hk⟩ := u8_nat hw
  injection hc with hc
  exact ⟨k, hk, hc, by rw [hx], hw⟩
set_option maxRecDepth 100000 in
theorem view_open {b0 : Nat} {v : Value} {d : DataW H} {p : List MemPlace} (hval : Value.okWide Tryz.prog W .any b0 40 v) (h : DataW.Trod enc Tryz.prog W base spare held 40 v d p) :
    ∃ (sc c0 c1 c2 c3 dk lt : Nat) (pt : Bool), (sc < 256 ∧ c0 < 256 ∧ c1 < 256 ∧ c2 < 256 ∧ c3 < 256 ∧ dk < 256 ∧ lt < 256) ∧ v = .agg #[.int .u8 sc, .int .u8 c0, .int .u8 c1, .int .u8 c2, .int .u8 c3, .int .u8 dk, .int .u8 lt, .bool pt] ∧ p = [] ∧
      d = .agg [.lit (.int .u8 sc), .agg [.lit (.int .u8 c0), .lit (.int .u8 c1), .lit (.int .u8 c2), .lit (.int .u8 c3)], .lit (.int .u8 dk), .lit (.int .u8 lt), .lit (.bool pt)] := by
  have k5 : Tryz.prog.cellsOf 5 = 1 := by kernel_rfl
  have k38 : Tryz.prog.cellsOf 38 = 4 := by kernel_rfl
  have k4 : Tryz.prog.cellsOf 4 = 1 := by kernel_rfl
  have k40 : Tryz.prog.cellsOf 40 = 8 := by kernel_rfl
  obtain ⟨cs, rfl, hsz⟩ := okWide_struct (P := Tryz.prog) Tryz.underlying40 hval
  obtain ⟨l⟩ := cs
  have h8 : l.length = 8 := by rw [k40] at hsz; exact hsz
  match l, h8 with
  | [v0, v1, v2, v3, v4, v5, v6, v7], _ =>
    obtain ⟨fuel, hf⟩ := h
    have hf' : DataW.trod enc Tryz.prog W base spare held fuel 40 [v0, v1, v2, v3, v4, v5, v6, v7] = some (d, p) := hf
    obtain ⟨xs, n, rfl, hx, -, hlen, hg⟩ := DataW.trod_struct Tryz.underlying40 hf'
    match xs, hlen with
    | [y0, y1, y2, y3, y4], _ =>
      have g0 : DataW.trod enc Tryz.prog W base spare held n 5 (List.take (Tryz.prog.cellsOf 5) (List.drop 0 [v0, v1, v2, v3, v4, v5, v6, v7])) = some y0 := hg 0 _ rfl
      rw [k5] at g0
      have g1 : DataW.trod enc Tryz.prog W base spare held n 38 (List.take (Tryz.prog.cellsOf 38) (List.drop 1 [v0, v1, v2, v3, v4, v5, v6, v7])) = some y1 := hg 1 _ rfl
      rw [k38] at g1
      have g2 : DataW.trod enc Tryz.prog W base spare held n 5 (List.take (Tryz.prog.cellsOf 5) (List.drop 5 [v0, v1, v2, v3, v4, v5, v6, v7])) = some y2 := hg 2 _ rfl
      rw [k5] at g2
      have g3 : DataW.trod enc Tryz.prog W base spare held n 5 (List.take (Tryz.prog.cellsOf 5) (List.drop 6 [v0, v1, v2, v3, v4, v5, v6, v7])) = some y3 := hg 3 _ rfl
      rw [k5] at g3
      have g4 : DataW.trod enc Tryz.prog W base spare held n 4 (List.take (Tryz.prog.cellsOf 4) (List.drop 7 [v0, v1, v2, v3, v4, v5, v6, v7])) = some y4 := hg 4 _ rfl
      rw [k4] at g4
      obtain ⟨sc, h0, e0, f0, -⟩ := open_u8 (c := v0) g0 ⟨_, rfl⟩
      obtain ⟨dk, h5, e5, f5, -⟩ := open_u8 (c := v5) g2 ⟨_, rfl⟩
      obtain ⟨lt, h6, e6, f6, -⟩ := open_u8 (c := v6) g3 ⟨_, rfl⟩
      obtain ⟨pt, hp, hpx⟩ := DataW.trod_bool (cs := [v7]) Tryz.underlying4 g4
      obtain ⟨zs, m, rfl, hz, -, hzl, hzg⟩ := DataW.trod_array (cs := [v1, v2, v3, v4]) Tryz.underlying38 g1
      match zs, hzl with
      | [z0, z1, z2, z3], _ =>
        have i0 : DataW.trod enc Tryz.prog W base spare held m 5 (List.take (Tryz.prog.cellsOf 5) (List.drop (0 * Tryz.prog.cellsOf 5) [v1, v2, v3, v4])) = some z0 := hzg 0 (by omega)
        rw [k5] at i0
        have i1 : DataW.trod enc Tryz.prog W base spare held m 5 (List.take (Tryz.prog.cellsOf 5) (List.drop (1 * Tryz.prog.cellsOf 5) [v1, v2, v3, v4])) = some z1 := hzg 1 (by omega)
        rw [k5] at i1
        have i2 : DataW.trod enc Tryz.prog W base spare held m 5 (List.take (Tryz.prog.cellsOf 5) (List.drop (2 * Tryz.prog.cellsOf 5) [v1, v2, v3, v4])) = some z2 := hzg 2 (by omega)
        rw [k5] at i2
        have i3 : DataW.trod enc Tryz.prog W base spare held m 5 (List.take (Tryz.prog.cellsOf 5) (List.drop (3 * Tryz.prog.cellsOf 5) [v1, v2, v3, v4])) = some z3 := hzg 3 (by omega)
        rw [k5] at i3
        obtain ⟨c0, j0, a0, b0, -⟩ := open_u8 (c := v1) i0 ⟨_, rfl⟩
        obtain ⟨c1, j1, a1, b1, -⟩ := open_u8 (c := v2) i1 ⟨_, rfl⟩
        obtain ⟨c2, j2, a2, b2, -⟩ := open_u8 (c := v3) i2 ⟨_, rfl⟩
        obtain ⟨c3, j3, a3, b3, -⟩ := open_u8 (c := v4) i3 ⟨_, rfl⟩
        simp only [Option.some.injEq] at f0 f5 f6 b0 b1 b2 b3
        injection hp with hp
        subst e0 e5 e6 a0 a1 a2 a3 hp f0 f5 f6 b0 b1 b2 b3
        simp only [Prod.mk.injEq] at hx
        refine ⟨sc, c0, c1, c2, c3, dk, lt, pt, ⟨h0, j0, j1, j2, j3, h5, h6⟩, rfl, ?_, ?_⟩
        · rw [hx.2, hz, hpx]; rfl
        · rw [hx.1, hz, hpx]; rfl
theorem wf_u8 {k : Nat} (h : k < 256) : (Lit.int .u8 (k : Int)).wf = true := by
  simp only [Lit.wf, Bool.and_eq_true, decide_eq_true_eq]
  have e1 : IntKind.u8.min = 0 := rfl
  have e2 : IntKind.u8.max = 255 := rfl
  omega
set_option maxRecDepth 100000 in
theorem view_shut {sc c0 c1 c2 c3 dk lt : Nat} {pt : Bool} (h : sc < 256 ∧ c0 < 256 ∧ c1 < 256 ∧ c2 < 256 ∧ c3 < 256 ∧ dk < 256 ∧ lt < 256) :
    DataW.Trod enc Tryz.prog W base spare held 40 (.agg #[.int .u8 sc, .int .u8 c0, .int .u8 c1, .int .u8 c2, .int .u8 c3, .int .u8 dk, .int .u8 lt, .bool pt]) (.agg [.lit (.int .u8 sc), .agg [.lit (.int .u8 c0), .lit (.int .u8 c1), .lit (.int .u8 c2), .lit (.int .u8 c3)], .lit (.int .u8 dk), .lit (.int .u8 lt), .lit (.bool pt)]) [] := by
  have k5 : Tryz.prog.cellsOf 5 = 1 := by kernel_rfl
  have k38 : Tryz.prog.cellsOf 38 = 4 := by kernel_rfl
  have k4 : Tryz.prog.cellsOf 4 = 1 := by kernel_rfl
  have k40 : Tryz.prog.cellsOf 40 = 8 := by kernel_rfl
  have s8 : ∀ (m : Nat) (k : Nat), k < 256 → DataW.trod enc Tryz.prog W base spare held (m + 1) 5 [.int .u8 (k : Int)] = some (.lit (.int .u8 (k : Int)), []) := fun m k hk => by
    simp [DataW.trod, Tryz.underlying5, wf_u8 hk]
  have sb : ∀ (m : Nat), DataW.trod enc Tryz.prog W base spare held (m + 1) 4 [.bool pt] = some (.lit (.bool pt), []) := fun m => by
    simp [DataW.trod, Tryz.underlying4]
  have sa : DataW.trod enc Tryz.prog W base spare held 2 38 [.int .u8 (c0 : Int), .int .u8 (c1 : Int), .int .u8 (c2 : Int), .int .u8 (c3 : Int)] = some (.agg [.lit (.int .u8 c0), .lit (.int .u8 c1), .lit (.int .u8 c2), .lit (.int .u8 c3)], []) := by
    unfold DataW.trod
    simp only [Tryz.underlying38, k38, k5, List.length_cons, List.length_nil, if_true]
    have r4 : List.range 4 = [0, 1, 2, 3] := rfl
    rw [r4]
    simp [s8 0 c0 h.2.1, s8 0 c1 h.2.2.1, s8 0 c2 h.2.2.2.1, s8 0 c3 h.2.2.2.2.1]
  refine ⟨3, ?_⟩
  show DataW.trod enc Tryz.prog W base spare held 3 40 [.int .u8 (sc : Int), .int .u8 (c0 : Int), .int .u8 (c1 : Int), .int .u8 (c2 : Int), .int .u8 (c3 : Int), .int .u8 (dk : Int), .int .u8 (lt : Int), .bool pt] = _
  unfold DataW.trod
  simp only [Tryz.underlying40, k40, List.length_cons, List.length_nil, if_true]
  simp [k5, k38, k4, s8 1 sc h.1, s8 1 dk h.2.2.2.2.2.1, s8 1 lt h.2.2.2.2.2.2, sb 1, sa]
end
end Go.Proofs.YtcekbhhpcmhicaaGreatDoor
