/- FnMakeFetchResponse: whatever the input (of bulk at most 1048576), the call returns true, and the input reads as it did. -/
import Derived.Test.YtpcgaheplmiglaaGreatLibE
import Derived.Test.YtpcgaheplmiglaaGreatF0
import Derived.Test.YtpcgaheplmiglaaGreatLFetchResponse
set_option linter.unusedVariables false
set_option linter.unusedSimpArgs false
set_option maxRecDepth 100000
set_option maxHeartbeats 20000000
namespace Go.Sx
open Go.Proofs Go.Proofs.YtpcgaheplmiglaaGreat Go.ChangeShapes Go.WideShapes Go.ChangeAt Go.RowKit
theorem treeTy : ∃ f0 f1 f2 f3 f4 g0 g1, TreeTy Tryz.prog 26 64 f0 f1 f2 f3 f4 g0 g1 :=
  ⟨_, _, _, _, _, _, _, { tree := Tryz.underlying26, off := ⟨rfl, rfl, rfl, rfl, rfl⟩, one := ⟨by kernel_rfl, by kernel_rfl, by kernel_rfl, by kernel_rfl, by kernel_rfl⟩, cells := by kernel_rfl, n := by kernel_rfl, s := ⟨5, by kernel_rfl, by kernel_rfl, by kernel_rfl⟩, nul := by kernel_rfl, l := by kernel_rfl, u := by kernel_rfl, tag := Tryz.underlying64, goff := ⟨rfl, rfl⟩, gone := ⟨by kernel_rfl, by kernel_rfl⟩, gcells := by kernel_rfl, k := by kernel_rfl, v := ⟨5, by kernel_rfl, by kernel_rfl, by kernel_rfl⟩ }⟩
theorem contract (H : Type) (enc : TypeId × Value → H) (W : World) (base : Nat) (args : Array Value) (ds gs : List (DataW H)) (before : List MemPlace)
    (hval : ∀ (j : Nat) t v, Tryz.f3.params[j]? = some t → args[j]? = some v → Value.okWide Tryz.prog W .any base t v)
    (hW : DataW.Whole enc Tryz.prog Tryz.f3.params.toList Rows.fnMakeFetchResponseSpec.vars false W args.toList ds gs before) (hk : Rows.uptoSmall H (ds ++ gs) = true) :
    Calls Tryz.prog 3 args W fun e W' => ∃ v, e = .returned v ∧ Rows.fnMakeFetchResponseSpec.post enc Tryz.prog Tryz.f3 false true false false W args v W' := by
  have hW' := hW
  obtain ⟨p, q, hA0, hV, rfl, hfz, hnd⟩ := hW
  have hA : DataW.TrodAll enc Tryz.prog W 0 (fun _ => true) true Tryz.f3.params.toList args.toList ds p := hA0
  rw [Tryz.params3] at hA hval
  obtain ⟨v0, vs0, d0, ds0, p0, q0, hargs, rfl, rfl, h0, r0⟩ := trodAll_cons hA
  obtain ⟨v1, vs1, d1, ds1, p1, q1, rfl, rfl, rfl, h1, r1⟩ := trodAll_cons r0
  obtain ⟨rfl, rfl, rfl⟩ := trodAll_nil r1
  obtain rfl : args = #[v0, v1] := by apply Array.toList_inj.1; exact hargs
  obtain ⟨rfl, rfl⟩ := trodVars_none hV
  have h1' := h1
  obtain ⟨n, rfl, rfl, rfl, w0⟩ := open_int Tryz.underlying5 (hval 0 5 v0 rfl rfl) h0
  have hv := hval 1 26 v1 rfl rfl
  unfold Value.okWide at hv
  rw [Tryz.underlying26] at hv
  obtain ⟨cs, rfl, _, _⟩ := hv
  obtain ⟨fuel, ht⟩ := h1
  obtain ⟨_, _, _, _, _, _, _, hY⟩ := treeTy
  have hbk : Rows.uptoBulk d1 ≤ 1048576 := by
    have h := of_decide_eq_true hk
    simp only [List.append_nil, Rows.uptoBulkAll] at h
    omega
  obtain ⟨c, t, hc, hT, hw, hr⟩ := trod_tree2 hY fuel _ d1 p1 ht hbk
  have hcs : cs = (c.cells t).toArray := by rw [← hc]; simp [Value.cells]
  subst hcs
  have hx : 0 ≤ n ∧ n ≤ 255 := by simpa [Lit.wf, IntKind.min, IntKind.max, IntKind.signed, IntKind.bits] using w0
  have hn : ((n.toNat : Nat) : Int) = n := by omega
  have hlaw := (law_FetchResponse (L := []) (n := n.toNat) hT hr (by omega) (fun v _ _ => by
    have h1 : ((Msg.mk fs_FetchResponse 12).write v t).length ≤ costFs fs_FetchResponse * wt t := costs fs_FetchResponse v _ t hT.keys
    have h2 : costFs fs_FetchResponse ≤ 4000 := by decide +kernel
    have h3 : costFs fs_FetchResponse * wt t ≤ 4000 * 1048576 := Nat.mul_le_mul h2 (by omega)
    omega)).2 W (hp_start W)
  rw [hn] at hlaw
  refine hlaw.mono fun e W' ⟨v, H', L', he, hle, hp, _, hR⟩ => ?_
  subst hR
  have hbl := below_of hle hp
  have hlt : ∀ x ∈ p1, x.block < W.heap.size := fun x hx => by simpa using hW'.lt x (by simp [hx])
  exact ⟨_, he, post_same (pa := [] ++ (p1 ++ [])) (pv := []) hW' (fun _ _ _ => (trodAll_cons_mk (shut_bool Tryz.underlying4 _) trodAll_mk0)) (fun sp hsp => trodAll_cons_mk (shut_int Tryz.underlying5 w0) (trodAll_cons_mk (WideElems.Trod_stays j_laid (by kernel_rfl) (of_decide_eq_true (by kernel_rfl)) h1' (fun x hx => hbl.same (hlt x hx)) (fun x hx => hsp x (by simp [hx]))) trodAll_mk0)) (fun _ _ => rfl) (by simp)
    (hbl.frame _) (frozen_of hle hp) (ok_one (by kernel_rfl) rfl (okWide_bool_mk Tryz.underlying4 _))⟩
theorem own : ownKnob Tryz.prog.godebug = none := by kernel_rfl
theorem lifted (os : Os) (started : os.Started) (H : Type) (enc : TypeId × Value → H) (F : Stop.Interp) :
    ReturnsInHanded {} Tryz.checked os 3 .any ((Rows.OpenSpec.upto Rows.fnMakeFetchResponseSpec).pre6 enc Tryz.prog Tryz.f3 Rows.fnMakeFetchResponseUptoRow.domain false) (((Rows.OpenSpec.upto Rows.fnMakeFetchResponseSpec).at F).post enc Tryz.prog Tryz.f3 false true false false) := by
  refine returnsInHanded_of_cond (C := Tryz.checked) (s := Rows.OpenSpec.upto Rows.fnMakeFetchResponseSpec) (k := Rows.uptoSmall) rfl own started (by kernel_rfl) Tryz.func3
    (OpenSpec.witness (enc := enc) (C := Tryz.checked) (s := Rows.OpenSpec.upto Rows.fnMakeFetchResponseSpec) (k := Rows.uptoSmall) rfl false ⟨#[], #[.int .u8 0, .agg #[.int .i64 0, .slice none 0 0, .bool false, .slice none 0 0, .slice none 0 0]], []⟩ 8 (by kernel_rfl) (by kernel_rfl) (by kernel_rfl)
      (x := ([.lit (.int .u8 0), .agg [.lit (.int .i64 0), .nil, .lit (.bool false), .nil, .nil]], [], [])) (by kernel_rfl) rfl (by kernel_rfl)) ?_
  intro W base args ds gs before hval hW _ hk _
  exact contract H enc W base args ds gs before hval hW hk
theorem facts : joinedFacts Tryz.prog 3 Tryz.f3 (Rows.OpenSpec.upto Rows.fnMakeFetchResponseSpec).bare Rows.fnMakeFetchResponseUptoRow = true := by
  unfold joinedFacts
  repeat' with_reducible apply and_t
  · as_aux_lemma => kernel_rfl
  · exact j_laid
  · exact j_rowed
  · as_aux_lemma => kernel_rfl
  · as_aux_lemma => kernel_rfl
  · as_aux_lemma => kernel_rfl
  · exact j_stops
  · as_aux_lemma => kernel_rfl
  · exact j_knobs
  · as_aux_lemma => kernel_rfl
  · as_aux_lemma => kernel_rfl
  · as_aux_lemma => kernel_rfl
  · as_aux_lemma => kernel_rfl
  · as_aux_lemma => kernel_rfl
  · as_aux_lemma => kernel_rfl
  · as_aux_lemma => kernel_rfl
  · as_aux_lemma => kernel_rfl
  · as_aux_lemma => kernel_rfl
  · as_aux_lemma => kernel_rfl
  · as_aux_lemma => kernel_rfl
  · as_aux_lemma => kernel_rfl
  · as_aux_lemma => kernel_rfl
  · exact j_keys
  · as_aux_lemma => kernel_rfl
  · exact j_heard
  · exact j_enter
  · exact j_lifts
  · exact j_make
  · as_aux_lemma => kernel_rfl
  · as_aux_lemma => kernel_rfl
  · as_aux_lemma => kernel_rfl
  · as_aux_lemma => kernel_rfl
theorem over : Rows.fnMakeFetchResponseUptoRow.holds Tryz.pinned (Rows.OpenSpec.upto Rows.fnMakeFetchResponseSpec) :=
  OpenClaim.holds_of_cond 3 Tryz.f3 rfl rfl rfl rfl rfl rfl rfl ⟨rfl, rfl, rfl, rfl, rfl⟩ rfl rfl rfl rfl rfl (by kernel_rfl) Tryz.func3 facts
    (of_decide_eq_true (by kernel_rfl)) (by unfold Func.isWrapper; first | (rw [if_pos (by decide +kernel)]; kernel_rfl) | (rw [if_neg (by decide +kernel)]; exact ⟨rfl, rfl⟩))
    (fun os started H enc _ F => lifted os started H enc F)
theorem proved : Rows.FnMakeFetchResponseUptoSaid := over
end Go.Sx
namespace Go.Proofs.YtpcgaheplmiglaaGreat
theorem FnMakeFetchResponseProved : Rows.FnMakeFetchResponseUptoSaid := Go.Sx.proved
end Go.Proofs.YtpcgaheplmiglaaGreat
