/- FnRQSelf: the row and the card. -/
import Derived.Test.YtcekbhhpcmhicaaGreatDoorM45
import Derived.Test.YtcekbhhpcmhicaaGreatDoorM46
import Derived.ChangeMaps5
import Derived.Deep.DeepHandedRow
import Derived.Deep.Onto
import Derived.Lib.LaidTab
import Derived.OpenShut
import Derived.ProofKit
import Derived.Test.YtcekbhhpcmhicaaGreatDoorCards
import Derived.Test.YtcekbhhpcmhicaaGreatDoorTie
import Derived.WalkKit
namespace Go.Proofs.YtcekbhhpcmhicaaGreatDoor.rqself
open Go.ChangeShapes Go.WideShapes Go.ChangeAt Go.RowKit
open Go.ChangeMaps (open_string shut_string)
theorem own : ownKnob Tryz.prog.godebug = none := by kernel_rfl
theorem frame_of_below {W W' : World} (h : Below W.heap.size W W') (may : MemPlace → Prop) : W.keptBut W' may :=
  World.keptBut.congr (World.keptBut_refl W may) h.os h.output h.block
theorem fits8 {n : Int} (h : (Lit.int .u8 n).wf = true) : ∃ k : Nat, n = (k : Int) ∧ k < 256 := by
  have h1 : 0 ≤ n ∧ n < 256 := by
    simp only [Lit.wf, Bool.and_eq_true, decide_eq_true_eq] at h
    have e1 : IntKind.u8.min = 0 := rfl
    have e2 : IntKind.u8.max = 255 := rfl
    omega
  exact ⟨n.toNat, by omega, by omega⟩
set_option maxRecDepth 100000 in
theorem contract (H : Type) (enc : TypeId × Value → H) (W : World) (base : Nat) (args : Array Value) (ds gs : List (DataW H)) (before : List MemPlace)
    (hval : ∀ (j : Nat) t v, Tryz.f4.params[j]? = some t → args[j]? = some v → Value.okWide Tryz.prog W .any base t v)
    (hW : DataW.Whole enc Tryz.prog Tryz.f4.params.toList Rows.fnRQSelfSpec.vars false W args.toList ds gs before) :
    Calls Tryz.prog 4 args W fun e W' => ∃ v, e = .returned v ∧ Rows.fnRQSelfSpec.post enc Tryz.prog Tryz.f4 false true false false W args v W' := by
  have hW' := hW
  obtain ⟨p, q, hA0, hV, rfl, hfz, hnd⟩ := hW
  have hA : DataW.TrodAll enc Tryz.prog W 0 (fun _ => true) true Tryz.f4.params.toList args.toList ds p := hA0
  rw [Tryz.params4] at hA hval
  obtain ⟨v0, vs0, d0, ds0, p0, q0, hargs0, rfl, rfl, h0, r0⟩ := trodAll_cons hA
  obtain ⟨v1, vs1, d1, ds1, p1, q1, hargs1, rfl, rfl, h1, r1⟩ := trodAll_cons r0
  obtain ⟨v2, vs2, d2, ds2, p2, q2, hargs2, rfl, rfl, h2, r2⟩ := trodAll_cons r1
  obtain ⟨v3, vs3, d3, ds3, p3, q3, hargs3, rfl, rfl, h3, r3⟩ := trodAll_cons r2
  obtain ⟨rfl, rfl, rfl⟩ := trodAll_nil r3
  obtain rfl : args = #[v0, v1, v2, v3] := by cases args; simp_all
  obtain ⟨rfl, rfl⟩ := trodVars_none hV
  obtain ⟨s, rfl, rfl, rfl, hs⟩ := open_string Tryz.underlying9 (hval 0 9 v0 rfl rfl) h0
  obtain ⟨n1, rfl, rfl, rfl, hn1⟩ := open_int Tryz.underlying5 (hval 1 5 v1 rfl rfl) h1
  obtain ⟨n2, rfl, rfl, rfl, hn2⟩ := open_int Tryz.underlying5 (hval 2 5 v2 rfl rfl) h2
  obtain ⟨sc, b0, b1, b2, b3, dk, lt, pt, hb, rfl, rfl, rfl⟩ := view_open (hval 3 40 v3 rfl rfl) h3
  clear hA0
  simp only [List.append_nil] at hW'
  obtain ⟨k1, rfl, hk1⟩ := fits8 hn1
  obtain ⟨k2, rfl, hk2⟩ := fits8 hn2
  refine (rqlaw_any (w := W) s k1 k2 sc b0 b1 b2 b3 dk lt pt hk1 hk2 hb.1 hb.2.1 hb.2.2.1 hb.2.2.2.1 hb.2.2.2.2.1 hb.2.2.2.2.2.1 hb.2.2.2.2.2.2).mono fun e W' ⟨he, hg⟩ => ?_
  subst he
  have e1 : Rows.fnRQSelfSpec.fn H ([.lit (.string s.data.toList), .lit (.int .u8 (k1 : Int)), .lit (.int .u8 (k2 : Int)), .agg [.lit (.int .u8 (sc : Int)), .agg [.lit (.int .u8 (b0 : Int)), .lit (.int .u8 (b1 : Int)), .lit (.int .u8 (b2 : Int)), .lit (.int .u8 (b3 : Int))], .lit (.int .u8 (dk : Int)), .lit (.int .u8 (lt : Int)), .lit (.bool pt)]] ++ []) = { results := [.lit (.bool true)], args := [.lit (.string s.data.toList), .lit (.int .u8 (k1 : Int)), .lit (.int .u8 (k2 : Int)), .agg [.lit (.int .u8 (sc : Int)), .agg [.lit (.int .u8 (b0 : Int)), .lit (.int .u8 (b1 : Int)), .lit (.int .u8 (b2 : Int)), .lit (.int .u8 (b3 : Int))], .lit (.int .u8 (dk : Int)), .lit (.int .u8 (lt : Int)), .lit (.bool pt)]] } := rfl
  refine ⟨_, rfl, _, _, _, [], [], [], hW', ?_, ?_, ?_, frame_of_below hg _, fun h => by cases h⟩
  · rw [e1]; exact trodAll_cons_mk (shut_bool Tryz.underlying4 _) trodAll_mk0
  · rw [e1]; exact trodAll_cons_mk (shut_string Tryz.underlying9 hs) (trodAll_cons_mk (shut_int Tryz.underlying5 hn1) (trodAll_cons_mk (shut_int Tryz.underlying5 hn2) (trodAll_cons_mk (view_shut hb) trodAll_mk0)))
  · rw [e1]; rfl
noncomputable def low : Nat := (World.holding Tryz.prog default ⟨#[], #[], []⟩).heap.size
noncomputable def lay (vs : Array Value) : Obj → Obj
  | .cells _ t frozen => .cells vs t frozen
  | o => o
noncomputable def laidWorld (os : Os) : World :=
  let w0 := World.holding Tryz.prog os ⟨#[.cells #[.string ⟨#[105, 110, 118, 97, 108, 105, 100, 32, 115, 121, 110, 116, 97, 120]⟩] 257, .cells #[.string ⟨#[118, 97, 108, 117, 101, 32, 111, 117, 116, 32, 111, 102, 32, 114, 97, 110, 103, 101]⟩] 257], #[], []⟩
  { w0 with heap := ((((w0.heap.modify 0 (lay #[.iface 255 (.pointer (some ⟨low, 0, none⟩))])).modify 1 (lay #[.iface 255 (.pointer (some ⟨low + 1, 0, none⟩))])).modify 2 (lay #[.int .u64 1, .int .u64 10, .int .u64 100, .int .u64 1000, .int .u64 10000, .int .u64 100000, .int .u64 1000000, .int .u64 10000000, .int .u64 100000000, .int .u64 1000000000, .int .u64 10000000000, .int .u64 100000000000, .int .u64 1000000000000, .int .u64 10000000000000, .int .u64 100000000000000, .int .u64 1000000000000000, .int .u64 10000000000000000, .int .u64 100000000000000000, .int .u64 1000000000000000000, .int .u64 10000000000000000000])).modify 3 (lay #[.int .u8 0, .int .u8 1, .int .u8 28, .int .u8 2, .int .u8 29, .int .u8 14, .int .u8 24, .int .u8 3, .int .u8 30, .int .u8 22, .int .u8 20, .int .u8 15, .int .u8 25, .int .u8 17, .int .u8 4, .int .u8 8, .int .u8 31, .int .u8 27, .int .u8 13, .int .u8 23, .int .u8 21, .int .u8 19, .int .u8 16, .int .u8 7, .int .u8 26, .int .u8 12, .int .u8 18, .int .u8 6, .int .u8 11, .int .u8 5, .int .u8 10, .int .u8 9])).modify 4 (lay #[.int .u8 0, .int .u8 1, .int .u8 56, .int .u8 2, .int .u8 57, .int .u8 49, .int .u8 28, .int .u8 3, .int .u8 61, .int .u8 58, .int .u8 42, .int .u8 50, .int .u8 38, .int .u8 29, .int .u8 17, .int .u8 4, .int .u8 62, .int .u8 47, .int .u8 59, .int .u8 36, .int .u8 45, .int .u8 43, .int .u8 51, .int .u8 22, .int .u8 53, .int .u8 39, .int .u8 33, .int .u8 30, .int .u8 24, .int .u8 18, .int .u8 12, .int .u8 5, .int .u8 63, .int .u8 55, .int .u8 48, .int .u8 27, .int .u8 60, .int .u8 41, .int .u8 37, .int .u8 16, .int .u8 46, .int .u8 35, .int .u8 44, .int .u8 21, .int .u8 52, .int .u8 32, .int .u8 23, .int .u8 11, .int .u8 54, .int .u8 26, .int .u8 40, .int .u8 15, .int .u8 34, .int .u8 20, .int .u8 31, .int .u8 10, .int .u8 25, .int .u8 14, .int .u8 19, .int .u8 9, .int .u8 13, .int .u8 8, .int .u8 7, .int .u8 6]) }
set_option maxRecDepth 100000 in
theorem laid_met (os : Os) : laidMet Tryz.prog Rows.fnRQSelfRow.laid ((laidWorld os).forCall (fun _ _ => 0) ⟨#[], #[.string ⟨#[]⟩, .int .u8 0, .int .u8 0, .agg #[.int .u8 0, .int .u8 0, .int .u8 0, .int .u8 0, .int .u8 0, .int .u8 0, .int .u8 0, .bool false]], []⟩).memory :=
  laidMet_of_run' 8 (by kernel_rfl) (by kernel_rfl)
theorem reads (os : Os) {H : Type} (enc : TypeId × Value → H) : ∃ places, DataW.whole enc Tryz.prog ((laidWorld os).forCall (fun _ _ => 0) ⟨#[], #[.string ⟨#[]⟩, .int .u8 0, .int .u8 0, .agg #[.int .u8 0, .int .u8 0, .int .u8 0, .int .u8 0, .int .u8 0, .int .u8 0, .int .u8 0, .bool false]], []⟩).memory Tryz.f4.params.toList Rows.fnRQSelfSpec.vars false #[Value.string ⟨#[]⟩, .int .u8 0, .int .u8 0, .agg #[.int .u8 0, .int .u8 0, .int .u8 0, .int .u8 0, .int .u8 0, .int .u8 0, .int .u8 0, .bool false]].toList 8 = some ([.lit (.string []), .lit (.int .u8 0), .lit (.int .u8 0), .agg [.lit (.int .u8 0), .agg [.lit (.int .u8 0), .lit (.int .u8 0), .lit (.int .u8 0), .lit (.int .u8 0)], .lit (.int .u8 0), .lit (.int .u8 0), .lit (.bool false)]], [], places) :=
  ⟨[], by kernel_rfl⟩
set_option maxRecDepth 100000 in
theorem lifted (os : Os) (started : os.Started) (H : Type) (enc : TypeId × Value → H) (F : Stop.Interp) :
    ReturnsInHanded {} Tryz.checked os 4 .any ((OpenSpec.ofChange Rows.fnRQSelfSpec).preRow enc Tryz.prog Tryz.f4 Rows.fnRQSelfRow.domain false Rows.fnRQSelfRow.laid) (((OpenSpec.ofChange Rows.fnRQSelfSpec).at F).post enc Tryz.prog Tryz.f4 false true false false) := by
  obtain ⟨places, hx⟩ := reads os enc
  refine returnsInHanded_of_row (C := Tryz.checked) (s := OpenSpec.ofChange Rows.fnRQSelfSpec) own started (by kernel_rfl) Tryz.func4
    (witness_row_at (enc := enc) (C := Tryz.checked) false (laidWorld os) #[.string ⟨#[]⟩, .int .u8 0, .int .u8 0, .agg #[.int .u8 0, .int .u8 0, .int .u8 0, .int .u8 0, .int .u8 0, .int .u8 0, .int .u8 0, .bool false]] rfl (by kernel_rfl) (by kernel_rfl) (by kernel_rfl)
      (OpenSpec.preRow_of_cond 8 hx (by kernel_rfl) (fun k hk => by cases hk) (by kernel_rfl) (laid_met os))) ?_
  intro W base args ds gs before hval hW _ _ _ hL _ _
  exact contract H enc W base args ds gs before hval hW
set_option maxRecDepth 100000 in
theorem jfall : joinedFacts Tryz.pinned.checked.prog 4 Tryz.f4 (OpenSpec.ofChange Rows.fnRQSelfSpec).bare Rows.fnRQSelfRow = true := by
  unfold joinedFacts
  rw [jf1, jf2, jf3, jf3b, jf4, jf4b]
  kernel_rfl
theorem said : Rows.FnRQSelfSaid :=
  OpenClaim.holds_of_cond 4 Tryz.f4 rfl rfl rfl rfl rfl rfl rfl ⟨rfl, rfl, rfl, rfl, rfl⟩ rfl rfl rfl rfl rfl (by kernel_rfl) Tryz.func4 jfall
    (of_decide_eq_true (by kernel_rfl)) (by unfold Func.isWrapper; first | (rw [if_pos (by decide +kernel)]; kernel_rfl) | (rw [if_neg (by decide +kernel)]; exact ⟨rfl, rfl⟩))
    (fun os started H enc _ F => by rw [OpenClaim.pre_eq_preRow]; exact lifted os started H enc F)
theorem plain (f : FuncId) (fn : Func) (hf : Tryz.pinned.checked.prog.funcNamed "given.example/pub-quietzone/laws.FnRQSelf" = some f) (hfn : Tryz.pinned.checked.prog.funcs[f]? = some fn) :
    true = Tryz.pinned.checked.prog.looks [] ∧ ∀ (j : Nat) t, fn.params[j]? = some t → Tryz.pinned.checked.prog.wantsStandIn t = false := by
  obtain rfl : f = 4 := Option.some.inj ((show Tryz.prog.funcNamed "given.example/pub-quietzone/laws.FnRQSelf" = some 4 by kernel_rfl).symm.trans hf) |>.symm
  obtain rfl : fn = Tryz.f4 := (Option.some.inj (Tryz.func4.symm.trans hfn)).symm
  refine ⟨by kernel_rfl, fun j t ht => ?_⟩
  rw [Tryz.params4] at ht
  have ht' : t = 9 ∨ t = 5 ∨ t = 40 := by
    have := Array.mem_of_getElem? ht
    simp at this
    omega
  rcases ht' with rfl | rfl | rfl
  · exact (show Tryz.prog.wantsStandIn 9 = false by kernel_rfl)
  · exact (show Tryz.prog.wantsStandIn 5 = false by kernel_rfl)
  · exact (show Tryz.prog.wantsStandIn 40 = false by kernel_rfl)
theorem card : Rows.FnRQSelfCardSaid :=
  Claim7.holds_tied_plain_at .later [] _ _ _ _ said (fun _ h => by cases h) (by kernel_rfl) (fun _ h => by cases h) fnRQSelf_row_tie rfl ⟨rfl, rfl⟩ (by kernel_rfl) rfl plain (by kernel_rfl)
end Go.Proofs.YtcekbhhpcmhicaaGreatDoor.rqself
