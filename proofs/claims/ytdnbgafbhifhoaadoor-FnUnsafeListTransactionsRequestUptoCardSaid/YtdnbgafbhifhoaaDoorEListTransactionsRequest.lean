import Derived.Test.YtdnbgafbhifhoaaDoorCListTransactionsRequest
import Derived.KernelRfl
set_option linter.unusedVariables false
set_option linter.unusedSimpArgs false
set_option maxRecDepth 100000
set_option maxHeartbeats 20000000
namespace Go.Sx
open Go.Proofs
theorem rd_ListTransactionsRequest_tu {H : Fz} {L : Own} {b : Nat} {v : Int} {a : Option Addr} {c : Nat} {s : List UInt8} {e : Value} (hB : BytesAt H a c s) (hL_ : s.length ≤ BR) (he : H.at 1 0 [e]) (hv0 : 0 ≤ v) (hv1 : v ≤ 2) :
    Fn Tryd.prog 140 [.pointer (some ⟨b, 0, none⟩), .slice a s.length c, .bool true] H ([(b, .cells [.int .i16 v, .slice none 0 0, .slice none 0 0, .int .i64 (-1), .pointer none, .map none].toArray 136 (0, 0))] :: L) (fun r H' L' => ∃ cs : List Value, L' = [(b, .cells cs.toArray 136 (0, 0))] :: L ∧ RdEnd H' (At_ListTransactionsRequest v) (decP fs_ListTransactionsRequest v true ⟨s, false, !a.isNone⟩) e r cs) := by
  refine Fn.mk Tryd.call140 Tryd.func140 rfl Tryd.ntmps140 rfl ?_
  refine sr ?_
  refine asg rfl rfl ?_
  refine nl ?_
  refine sr ?_
  refine mv rfl rfl ?_
  refine cl rfl rfl rfl def0_ListTransactionsRequest rfl (fun v_ H1 L1 hle_ hR_ => ?_)
  obtain ⟨rfl, rfl⟩ := hR_
  refine nl ?_
  refine sr ?_
  refine mv rfl rfl ?_
  refine bd' S193 rfl rfl rfl ?_
  refine al Tryd.zeroValue193 rfl rfl (fun b_1 => ?_)
  refine sa Tryd.sizeOf193 rfl rfl rfl rfl rfl .head ?_
  have hR0_ : RdAt H 193 b_1 ⟨s, false, !a.isNone⟩ [(b_1, .cells [_, _].toArray 193 (0, 0))] := ⟨a, c, rfl, hB, by simp⟩
  obtain ⟨x0, hx0⟩ : ∃ x, x = stepF (Fd.mk 11 0 (-1) (-1) (-1) 0 8 []) v true ⟨s, false, !a.isNone⟩ := ⟨_, rfl⟩
  obtain ⟨x1, hx1⟩ : ∃ x, x = stepF (Fd.mk 11 0 (-1) (-1) (-1) 0 4 []) v true x0.2 := ⟨_, rfl⟩
  obtain ⟨x2, hx2⟩ : ∃ x, x = stepF (Fd.mk 4 1 (-1) (-1) (-1) (-1) 0 []) v true x1.2 := ⟨_, rfl⟩
  obtain ⟨x3, hx3⟩ : ∃ x, x = stepF (Fd.mk 8 2 (-1) 2 (-1) 0 0 []) v true x2.2 := ⟨_, rfl⟩
  obtain ⟨u, hu⟩ : ∃ x, x = tailU true x3.2 := ⟨_, rfl⟩
  have hD : decP fs_ListTransactionsRequest v true ⟨s, false, !a.isNone⟩ = (.mk 0 [] false [x0.1, x1.1, x2.1, x3.1] u.1, u.2) := by
    generalize (⟨s, false, !a.isNone⟩ : Rd) = r_ at hx0 ⊢
    rw [decP_eq]; unfold fs_ListTransactionsRequest; simp only [decFs_cons, decFs_nil, ← hx0, ← hx1, ← hx2, ← hx3, ← hu]
  have hL0 : x0.2.s.length ≤ BR := by rw [hx0]; exact Nat.le_trans (stepF_shr _ _ _ _) hL_
  have hL1 : x1.2.s.length ≤ BR := by rw [hx1]; exact Nat.le_trans (stepF_shr _ _ _ _) hL0
  have hL2 : x2.2.s.length ≤ BR := by rw [hx2]; exact Nat.le_trans (stepF_shr _ _ _ _) hL1
  have hL3 : x3.2.s.length ≤ BR := by rw [hx3]; exact Nat.le_trans (stepF_shr _ _ _ _) hL2
  have hE : u.2.bad = true → (decP fs_ListTransactionsRequest v true ⟨s, false, !a.isNone⟩).2.bad = true := fun h => by rw [hD]; exact h
  have hB3 : x3.2.bad = true → (decP fs_ListTransactionsRequest v true ⟨s, false, !a.isNone⟩).2.bad = true := fun h => hE (by rw [hu]; exact tailU_bad h)
  have hB2 : x2.2.bad = true → (decP fs_ListTransactionsRequest v true ⟨s, false, !a.isNone⟩).2.bad = true := fun h => hB3 (by rw [hx3]; exact step_bad h)
  have hB1 : x1.2.bad = true → (decP fs_ListTransactionsRequest v true ⟨s, false, !a.isNone⟩).2.bad = true := fun h => hB2 (by rw [hx2]; exact step_bad h)
  have hB0 : x0.2.bad = true → (decP fs_ListTransactionsRequest v true ⟨s, false, !a.isNone⟩).2.bad = true := fun h => hB1 (by rw [hx1]; exact step_bad h)
  refine nl ?_
  refine sr ?_
  refine mv rfl rfl ?_
  refine nc rfl rfl ?_
  refine fa0 F136_0 rfl rfl ?_
  refine ld (Says.own (.tail .head)) Tryd.isAgg45 rfl (Nat.zero_add _).symm rfl rfl ?_
  refine asg rfl rfl ?_
  refine nl ?_
  refine sr ?_
  refine mv rfl rfl ?_
  refine nl ?_
  refine sr ?_
  refine mv rfl rfl ?_
  refine ge rfl rfl rfl ?_
  refine asg rfl rfl ?_
  refine nl ?_
  refine sr ?_
  refine mv rfl rfl ?_
  refine nl ?_
  refine sr ?_
  refine mv rfl rfl ?_
  refine asg rfl rfl ?_
  refine nl ?_
  refine sq ?_
  refine sr ?_
  refine mv rfl rfl ?_
  refine nc rfl rfl ?_
  refine fa0 F136_1 rfl rfl ?_
  refine ld (Says.own (.tail .head)) Tryd.isAgg133 rfl (Nat.zero_add _).symm rfl rfl ?_
  refine asg rfl rfl ?_
  refine nl ?_
  refine sr ?_
  refine mv rfl rfl ?_
  refine asg rfl rfl ?_
  refine nl ?_
  refine sr ?_
  refine asg rfl rfl ?_
  refine nl ?_
  refine sq ?_
  refine sr ?_
  refine mv rfl rfl ?_
  refine nl ?_
  refine cdT rfl (by omega) ?_
  refine rg ?_
  have ey0 : x0 = (.mk 0 [] (if 0 ≤ ((-1) : Int) ∧ (v < ((-1) : Int) ∨ (rArr true ⟨s, false, !a.isNone⟩).1 = 0) then false else decide ((rArr true ⟨s, false, !a.isNone⟩).1 ≤ 0)) (rMany (decV 8 (decP [] v true) false true) (rArr true ⟨s, false, !a.isNone⟩).1.toNat (rArr true ⟨s, false, !a.isNone⟩).2).1 [], (rMany (decV 8 (decP [] v true) false true) (rArr true ⟨s, false, !a.isNone⟩).1.toNat (rArr true ⟨s, false, !a.isNone⟩).2).2) := (hx0.trans (step_yes (by decide) (show (0 : Int) ≤ v by omega) (Or.inl (by decide)))).trans (decF'_list rfl rfl)
  have hn0 : (rArr true ⟨s, false, !a.isNone⟩).1.toNat = (lT x0.1).length := by rw [ey0]; exact (lT_many nul_le).symm
  have ex0 := ey0
  rw [hn0] at ex0
  have hl0 := rArr_le true ⟨s, false, !a.isNone⟩
  have hm0 : (rArr true ⟨s, false, !a.isNone⟩).2.s.length ≤ BR := Nat.le_trans (rArr_len true ⟨s, false, !a.isNone⟩) hL_
  have hnb0 : (lT x0.1).length ≤ BR := by omega
  refine cl rfl rfl rfl (r_arrt hR0_) rfl (fun v_ H1 L1 hle_ hR_ => ?_)
  obtain ⟨rfl, N42, rfl, hR42, rfl⟩ := hR_
  have hh0 := rArr_hi true ⟨s, false, !a.isNone⟩
  refine asg rfl rfl ?_
  refine nl ?_
  refine sq ?_
  refine sr ?_
  refine cl rfl rfl rfl (r_ok hR42) rfl (fun v_ H1 L1 hle_ hR_ => ?_)
  obtain ⟨rfl, rfl, rfl⟩ := hR_
  refine nt rfl rfl ?_
  refine nl ?_
  refine cb rfl (fun h45 => ?_) (fun h45 => ?_)
  · skip
    have hbad_ : (rArr true ⟨s, false, !a.isNone⟩).2.bad = true := by simpa using h45
    refine sr ?_
    refine cl rfl rfl rfl (r_complete hR42 he) rfl (fun v_ H1 L1 hle_ hR_ => ?_)
    obtain ⟨rfl, rfl, rfl⟩ := hR_
    refine asg rfl rfl ?_
    refine nl ?_
    refine drW .head ?_
    exact rT rfl rfl (Fz.le.refl _) (fun _ _ h => h) ⟨_, rfl, RdEnd.out (hB0 (by rw [ey0]; exact rMany_bad (fun r h => decV_bad (decP_bad _ _ _) h) _ _ hbad_)) hbad_⟩
  · skip
    refine skt ?_
    refine sr ?_
    refine mv rfl rfl ?_
    refine sh' (j := 0) Tryd.runUnderlying133 Tryd.sizeOf9 rfl rfl rfl (Nat.zero_le _) rfl ?_
    refine asg rfl rfl ?_
    refine nl ?_
    refine sq ?_
    refine sr ?_
    refine mv rfl rfl ?_
    refine gt rfl rfl rfl ?_
    refine nl ?_
    refine nulC2 ?_
    refine cutT (fun l' H' L' => ∃ (a0 : Option Addr), ∃ (c0 : Nat), ∃ (Nr0 : Chunk), [(2, .bool true), (7, .pointer (some ⟨b_1, 0, none⟩)), (8, .int .i16 v), (9, .bool (decide ((0 : Int) ≤ v))), (10, .pointer (some ⟨b, 0, none⟩)), (11, .slice none 0 0), (12, .slice a0 (lT x0.1).length c0), (13, .int .i32 (rArr true ⟨s, false, !a.isNone⟩).1)] = l' ∧ Nr0 :: N42 :: [(b, .cells [.int .i16 v, .slice none 0 0, .slice none 0 0, .int .i64 (-1), .pointer none, .map none].toArray 136 (0, 0))] :: L = L' ∧ Row 9 1 a0 (lT x0.1).length c0 (reps [.string ⟨#[]⟩] (lT x0.1).length) Nr0 ∧ a0.isNone = (if 0 ≤ ((-1) : Int) ∧ (v < ((-1) : Int) ∨ (rArr true ⟨s, false, !a.isNone⟩).1 = 0) then false else decide ((rArr true ⟨s, false, !a.isNone⟩).1 ≤ 0))) ?_ (fun l' H' L' le_2 hI => ?_)
    · skip
      refine cd rfl (fun h50 => ?_) (fun h50 => ?_)
      · skip
        refine rg ?_
        refine mv rfl rfl ?_
        refine mv rfl rfl ?_
        refine apz (zs := [.string ⟨#[]⟩]) (m := (lT x0.1).length) Tryd.underlying133 Tryd.underlying21 I9 rfl rfl rfl (by omega) (by omega) (by have h9 := hnb0; unfold BR at h9; omega) (by have h9 := hnb0; unfold BR at h9; unfold maxLen; omega) rfl (fun g53 cp53 N53 r53 => ?_)
        refine asg rfl rfl ?_
        refine nN ?_
        refine drN (.tail .head) ?_
        refine fun a_ w_ hA hw => ⟨_, _, _, hA.sub ?_, (Fz.le.refl _), hw, (some ⟨g53, 0, none⟩), cp53, N53, rfl, rfl, r53, (by rw [if_neg (by omega)]; exact (decide_eq_false (by omega)).symm)⟩
        exact (.cons rfl (.cons rfl (.cons rfl (.cons rfl (.cons rfl (.cons rfl (.cons rfl (.cons rfl (.nil _)))))))))
      · skip
        refine skN ?_
        refine fun a_ w_ hA hw => ⟨_, _, _, hA.sub ?_, (Fz.le.refl _), hw, none, 0, [], rfl, rfl, (by rw [show (lT x0.1).length = 0 by omega]; exact (Row.nil _ _)), (by rw [if_neg (by omega)]; exact (decide_eq_true (by omega)).symm)⟩
        exact (.cons rfl (.cons rfl (.cons rfl (.cons rfl (.cons rfl (.cons rfl (.cons (by rw [show (lT x0.1).length = 0 by omega]; rfl) (.cons rfl (.nil _)))))))))
    · skip
      obtain ⟨a0, c0, Nr0, rfl, rfl, pj0, pj1⟩ := hI
      have hr0 := pj0
      have hi0 := pj1
      refine sq ?_
      refine sr ?_
      refine asg rfl rfl ?_
      refine nl ?_
      refine bl (lp ((lT x0.1).length) (fun k0 l' H' L' => ∃ (es0 : List (KE 1)) (M0 RN0 : Chunk), [(2, .bool true), (7, .pointer (some ⟨b_1, 0, none⟩)), (8, .int .i16 v), (9, .bool (decide ((0 : Int) ≤ v))), (10, .pointer (some ⟨b, 0, none⟩)), (11, .slice none 0 0), (12, .slice a0 (lT x0.1).length c0), (13, .int .i32 (rArr true ⟨s, false, !a.isNone⟩).1), (14, .int .i32 (k0 : Int))] = l' ∧ M0 :: RN0 :: [(b, .cells [.int .i16 v, .slice none 0 0, .slice none 0 0, .int .i64 (-1), .pointer none, .map none].toArray 136 (0, 0))] :: L = L' ∧ RdAt H' 193 b_1 (rMany (decV 8 (decP [] v true) false true) k0 (rArr true ⟨s, false, !a.isNone⟩).2).2 RN0 ∧ Row 9 1 a0 (lT x0.1).length c0 (es0.flatMap fk ++ reps [.string ⟨#[]⟩] ((lT x0.1).length - k0)) M0 ∧ es0.map (·.2) = (rMany (decV 8 (decP [] v true) false true) k0 (rArr true ⟨s, false, !a.isNone⟩).2).1 ∧ ∀ p ∈ es0, RText H' p.2 (fk p)) [(2, .bool true), (7, .pointer (some ⟨b_1, 0, none⟩)), (8, .int .i16 v), (9, .bool (decide ((0 : Int) ≤ v))), (10, .pointer (some ⟨b, 0, none⟩)), (11, .slice none 0 0), (12, .slice a0 (lT x0.1).length c0), (13, .int .i32 (rArr true ⟨s, false, !a.isNone⟩).1), (14, .int .i32 (0 : Int))] (.cons rfl (.cons rfl (.cons rfl (.cons rfl (.cons rfl (.cons rfl (.cons rfl (.cons rfl (.cons rfl (.nil _)))))))))) ⟨[], Nr0, _, rfl, rfl, (hR42.mono le_2), hr0, rfl, (fun p hp => by cases hp)⟩ (fun k0 l' H' L' hk0 le_3 hI => ?_))
      obtain ⟨es0, M0, RN0, rfl, rfl, hR_0, hw_0, he_0, hg_0⟩ := hI
      have hs_0 := els_len he_0
      have hp_0 : (es0.flatMap fk).length = k0 * 1 := els_flat hs_0
      refine sq ?_
      refine sr ?_
      refine mv rfl rfl ?_
      refine mv rfl rfl ?_
      refine lt rfl rfl rfl ?_
      refine nl ?_
      refine cd rfl (fun h56 => ?_) (fun h56 => ?_)
      · skip
        have hkl0 : k0 < (lT x0.1).length := by omega
        obtain ⟨g0, po0, hga0, rfl, hbk0⟩ := hw_0.next (zs := [.string ⟨#[]⟩]) hkl0 rfl (by decide)
        have ho0 : 0 + k0 * 1 = (es0.flatMap fk).length := by rw [hp_0]; omega
        have hbz0 : ((decV 8 (decP [] v true) false true) (rMany (decV 8 (decP [] v true) false true) k0 (rArr true ⟨s, false, !a.isNone⟩).2).2).2.bad = true → (decP fs_ListTransactionsRequest v true ⟨s, false, !a.isNone⟩).2.bad = true := fun h => hB0 (by rw [ex0]; exact rMany_mono (fun r h => decV_bad (fun r h => decP_bad _ _ _ r h) h) _ (show k0 + 1 ≤ (lT x0.1).length from hkl0) (by rw [rMany_succ]; exact h))
        have hLk0 : (rMany (decV 8 (decP [] v true) false true) k0 (rArr true ⟨s, false, !a.isNone⟩).2).2.s.length ≤ BR := Nat.le_trans (rMany_shr (fun r => decV_shr (fun r => decP_shr _ _ _ r) r) _ _) hm0
        obtain ⟨y0, hy0⟩ : ∃ x, x = (decV 8 (decP [] v true) false true) (rMany (decV 8 (decP [] v true) false true) k0 (rArr true ⟨s, false, !a.isNone⟩).2).2 := ⟨_, rfl⟩
        refine skt ?_
        refine sq ?_
        refine bl ?_
        refine sr ?_
        refine asg rfl rfl ?_
        refine nl ?_
        refine sq ?_
        refine sr ?_
        refine mv rfl rfl ?_
        refine nl ?_
        refine cT rfl ?_
        refine sr ?_
        refine mv rfl rfl ?_
        refine nl ?_
        refine cdT rfl (by omega) ?_
        refine rg ?_
        refine tf (.tail .head) ?_
        refine cl rfl rfl rfl (d8tu hR_0 hy0) rfl (fun v_ H1 L1 hle_ hR_ => ?_)
        obtain ⟨N61, rfl, hR61, rfl, rfl⟩ := hR_
        refine asg rfl rfl ?_
        refine nl ?_
        refine rg ?_
        refine mv rfl rfl ?_
        refine mv rfl rfl ?_
        refine mv rfl rfl ?_
        refine ixk (j := k0) Tryd.runUnderlying133 Tryd.sizeOf9 rfl hga0 rfl rfl hkl0 rfl ?_
        refine stM (off := 0) Tryd.sizeOf9 rfl ho0 rfl rfl rfl (.tail .head) ?_
        refine nN ?_
        refine Nb ?_
        refine Nt ?_
        refine rg ?_
        refine mv rfl rfl ?_
        refine ad rfl rfl (c := ((k0 + 1 : Nat) : Int)) ((wrap32_le (by omega) (by omega)).trans (by omega)) rfl ?_
        refine asg rfl rfl ?_
        refine nN ?_
        have hfs0 := flatMap_snoc' fk es0 ((⟨([.string ⟨y0.1.s.toArray⟩] : List Value), rfl, all_one rfl⟩, ((decV 8 (decP [] v true) false true) (rMany (decV 8 (decP [] v true) false true) k0 (rArr true ⟨s, false, !a.isNone⟩).2).2).1) : KE 1)
        have hrw0 := hbk0 ([.string ⟨y0.1.s.toArray⟩] : List Value) rfl
        refine tfN (.tail .head) ?_
        refine fun a_ w_ hA hw => ⟨hkl0, _, _, _, hA.sub ?_, le_3, hw, _, _, _, rfl, rfl, (by rw [rMany_succ, ← hy0]; exact hR61), (by rw [← hfs0]; exact hrw0), (dec_els he_0), (fun p hp => (mem_snoc hp).elim (fun h => RText.mono _ _ _ _ (Fz.le.refl _) (hg_0 p h)) (fun h => h ▸ (by show RText _ ((decV 8 (decP [] v true) false true) (rMany (decV 8 (decP [] v true) false true) k0 (rArr true ⟨s, false, !a.isNone⟩).2).2).1 [.string ⟨y0.1.s.toArray⟩]; rw [← hy0]; rfl)))⟩
        exact (.cons rfl (.cons rfl (.cons rfl (.cons rfl (.cons rfl (.cons rfl (.cons rfl (.cons rfl (.cons rfl (.nil _))))))))))
      · skip
        have hkn_ : k0 = (lT x0.1).length := by omega
        subst hkn_
        have hw2_0 : Row 9 1 a0 (lT x0.1).length c0 (es0.flatMap fk) M0 := by have h := hw_0; rw [Nat.sub_self] at h; simpa [reps] using h
        refine frW hw2_0 .head (fun Hf0 hlf0 hfz0 => ?_)
        have hrs0 := RowsAt.row (R := RText) hfz0 hs_0.symm hw2_0.le.1 (fun p hp => RText.mono _ _ _ _ hlf0 (hg_0 p hp))
        rw [he_0] at hrs0
        have hf0 : ListAt Hf0 x0.1 1 RText a0 c0 := by rw [ex0]; exact listAt_of hrs0 hi0 (fun h => by have h1 := nul_le h; rw [show (lT x0.1).length = 0 by omega]; rfl)
        have hRx0 : RdAt Hf0 193 b_1 x0.2 RN0 := by rw [ex0]; exact (hR_0.mono hlf0)
        refine exX ?_
        refine XT ?_
        refine XT ?_
        refine Xb ?_
        refine Nt ?_
        refine sr ?_
        refine mv rfl rfl ?_
        refine asg rfl rfl ?_
        refine nl ?_
        refine rg ?_
        refine mv rfl rfl ?_
        refine mv rfl rfl ?_
        refine nc rfl rfl ?_
        refine fa0 F136_1 rfl rfl ?_
        refine st Tryd.sizeOf133 rfl rfl rfl rfl (.tail .head) ?_
        refine nl ?_
        refine sq ?_
        refine sr ?_
        refine mv rfl rfl ?_
        refine nc rfl rfl ?_
        refine fa0 F136_2 rfl rfl ?_
        refine ld (Says.own (.tail .head)) Tryd.isAgg134 rfl (Nat.zero_add _).symm rfl rfl ?_
        refine asg rfl rfl ?_
        refine nl ?_
        refine sr ?_
        refine mv rfl rfl ?_
        refine asg rfl rfl ?_
        refine nl ?_
        refine sr ?_
        refine asg rfl rfl ?_
        refine nl ?_
        refine sq ?_
        refine sr ?_
        refine mv rfl rfl ?_
        refine nl ?_
        refine cdT rfl (by omega) ?_
        refine rg ?_
        have ey1 : x1 = (.mk 0 [] (if 0 ≤ ((-1) : Int) ∧ (v < ((-1) : Int) ∨ (rArr true x0.2).1 = 0) then false else decide ((rArr true x0.2).1 ≤ 0)) (rMany (decV 4 (decP [] v true) false true) (rArr true x0.2).1.toNat (rArr true x0.2).2).1 [], (rMany (decV 4 (decP [] v true) false true) (rArr true x0.2).1.toNat (rArr true x0.2).2).2) := (hx1.trans (step_yes (by decide) (show (0 : Int) ≤ v by omega) (Or.inl (by decide)))).trans (decF'_list rfl rfl)
        have hn1 : (rArr true x0.2).1.toNat = (lT x1.1).length := by rw [ey1]; exact (lT_many nul_le).symm
        have ex1 := ey1
        rw [hn1] at ex1
        have hl1 := rArr_le true x0.2
        have hm1 : (rArr true x0.2).2.s.length ≤ BR := Nat.le_trans (rArr_len true x0.2) hL0
        have hnb1 : (lT x1.1).length ≤ BR := by omega
        refine cl rfl rfl rfl (r_arrt hRx0) rfl (fun v_ H1 L1 hle_ hR_ => ?_)
        obtain ⟨rfl, N81, rfl, hR81, rfl⟩ := hR_
        have hh1 := rArr_hi true x0.2
        refine asg rfl rfl ?_
        refine nl ?_
        refine sq ?_
        refine sr ?_
        refine cl rfl rfl rfl (r_ok hR81) rfl (fun v_ H1 L1 hle_ hR_ => ?_)
        obtain ⟨rfl, rfl, rfl⟩ := hR_
        refine nt rfl rfl ?_
        refine nl ?_
        refine cb rfl (fun h84 => ?_) (fun h84 => ?_)
        · skip
          have hbad_ : (rArr true x0.2).2.bad = true := by simpa using h84
          refine sr ?_
          refine cl rfl rfl rfl (r_complete hR81 (he.mono (le_2.trans (le_3.trans hlf0)))) rfl (fun v_ H1 L1 hle_ hR_ => ?_)
          obtain ⟨rfl, rfl, rfl⟩ := hR_
          refine asg rfl rfl ?_
          refine nl ?_
          refine drW .head ?_
          exact rT rfl rfl (le_2.trans (le_3.trans hlf0)) (fun _ _ h => h) ⟨_, rfl, RdEnd.out (hB1 (by rw [ey1]; exact rMany_bad (fun r h => decV_bad (decP_bad _ _ _) h) _ _ hbad_)) hbad_⟩
        · skip
          refine skt ?_
          refine sr ?_
          refine mv rfl rfl ?_
          refine sh' (j := 0) Tryd.runUnderlying134 Tryd.sizeOf2 rfl rfl rfl (Nat.zero_le _) rfl ?_
          refine asg rfl rfl ?_
          refine nl ?_
          refine sq ?_
          refine sr ?_
          refine mv rfl rfl ?_
          refine gt rfl rfl rfl ?_
          refine nl ?_
          refine nulC2 ?_
          refine cutT (fun l' H' L' => ∃ (a1 : Option Addr), ∃ (c1 : Nat), ∃ (Nr1 : Chunk), [(2, .bool true), (7, .pointer (some ⟨b_1, 0, none⟩)), (8, .int .i16 v), (9, .bool (decide ((0 : Int) ≤ v))), (10, .pointer (some ⟨b, 0, none⟩)), (16, .slice none 0 0), (17, .slice a1 (lT x1.1).length c1), (18, .int .i32 (rArr true x0.2).1)] = l' ∧ Nr1 :: N81 :: [(b, .cells [.int .i16 v, .slice a0 (lT x0.1).length c0, .slice none 0 0, .int .i64 (-1), .pointer none, .map none].toArray 136 (0, 0))] :: L = L' ∧ Row 2 1 a1 (lT x1.1).length c1 (reps [.int .i64 0] (lT x1.1).length) Nr1 ∧ a1.isNone = (if 0 ≤ ((-1) : Int) ∧ (v < ((-1) : Int) ∨ (rArr true x0.2).1 = 0) then false else decide ((rArr true x0.2).1 ≤ 0))) ?_ (fun l' H' L' le_5 hI => ?_)
          · skip
            refine cd rfl (fun h89 => ?_) (fun h89 => ?_)
            · skip
              refine rg ?_
              refine mv rfl rfl ?_
              refine mv rfl rfl ?_
              refine apz (zs := [.int .i64 0]) (m := (lT x1.1).length) Tryd.underlying134 Tryd.underlying21 I2 rfl rfl rfl (by omega) (by omega) (by have h9 := hnb1; unfold BR at h9; omega) (by have h9 := hnb1; unfold BR at h9; unfold maxLen; omega) rfl (fun g92 cp92 N92 r92 => ?_)
              refine asg rfl rfl ?_
              refine nN ?_
              refine drN (.tail .head) ?_
              refine fun a_ w_ hA hw => ⟨_, _, _, hA.sub ?_, (Fz.le.refl _), hw, (some ⟨g92, 0, none⟩), cp92, N92, rfl, rfl, r92, (by rw [if_neg (by omega)]; exact (decide_eq_false (by omega)).symm)⟩
              exact (.cons rfl (.cons rfl (.cons rfl (.cons rfl (.cons rfl (.cons rfl (.cons rfl (.cons rfl (.nil _)))))))))
            · skip
              refine skN ?_
              refine fun a_ w_ hA hw => ⟨_, _, _, hA.sub ?_, (Fz.le.refl _), hw, none, 0, [], rfl, rfl, (by rw [show (lT x1.1).length = 0 by omega]; exact (Row.nil _ _)), (by rw [if_neg (by omega)]; exact (decide_eq_true (by omega)).symm)⟩
              exact (.cons rfl (.cons rfl (.cons rfl (.cons rfl (.cons rfl (.cons rfl (.cons (by rw [show (lT x1.1).length = 0 by omega]; rfl) (.cons rfl (.nil _)))))))))
          · skip
            obtain ⟨a1, c1, Nr1, rfl, rfl, pj0, pj1⟩ := hI
            have hr1 := pj0
            have hi1 := pj1
            refine sq ?_
            refine sr ?_
            refine asg rfl rfl ?_
            refine nl ?_
            refine bl (lp ((lT x1.1).length) (fun k1 l' H' L' => ∃ (es1 : List (KE 1)) (M1 RN1 : Chunk), [(2, .bool true), (7, .pointer (some ⟨b_1, 0, none⟩)), (8, .int .i16 v), (9, .bool (decide ((0 : Int) ≤ v))), (10, .pointer (some ⟨b, 0, none⟩)), (16, .slice none 0 0), (17, .slice a1 (lT x1.1).length c1), (18, .int .i32 (rArr true x0.2).1), (19, .int .i32 (k1 : Int))] = l' ∧ M1 :: RN1 :: [(b, .cells [.int .i16 v, .slice a0 (lT x0.1).length c0, .slice none 0 0, .int .i64 (-1), .pointer none, .map none].toArray 136 (0, 0))] :: L = L' ∧ RdAt H' 193 b_1 (rMany (decV 4 (decP [] v true) false true) k1 (rArr true x0.2).2).2 RN1 ∧ Row 2 1 a1 (lT x1.1).length c1 (es1.flatMap fk ++ reps [.int .i64 0] ((lT x1.1).length - k1)) M1 ∧ es1.map (·.2) = (rMany (decV 4 (decP [] v true) false true) k1 (rArr true x0.2).2).1 ∧ ∀ p ∈ es1, RI64 H' p.2 (fk p)) [(2, .bool true), (7, .pointer (some ⟨b_1, 0, none⟩)), (8, .int .i16 v), (9, .bool (decide ((0 : Int) ≤ v))), (10, .pointer (some ⟨b, 0, none⟩)), (16, .slice none 0 0), (17, .slice a1 (lT x1.1).length c1), (18, .int .i32 (rArr true x0.2).1), (19, .int .i32 (0 : Int))] (.cons rfl (.cons rfl (.cons rfl (.cons rfl (.cons rfl (.cons rfl (.cons rfl (.cons rfl (.cons rfl (.nil _)))))))))) ⟨[], Nr1, _, rfl, rfl, (hR81.mono le_5), hr1, rfl, (fun p hp => by cases hp)⟩ (fun k1 l' H' L' hk1 le_6 hI => ?_))
            obtain ⟨es1, M1, RN1, rfl, rfl, hR_1, hw_1, he_1, hg_1⟩ := hI
            have hs_1 := els_len he_1
            have hp_1 : (es1.flatMap fk).length = k1 * 1 := els_flat hs_1
            refine sq ?_
            refine sr ?_
            refine mv rfl rfl ?_
            refine mv rfl rfl ?_
            refine lt rfl rfl rfl ?_
            refine nl ?_
            refine cd rfl (fun h95 => ?_) (fun h95 => ?_)
            · skip
              have hkl1 : k1 < (lT x1.1).length := by omega
              obtain ⟨g1, po1, hga1, rfl, hbk1⟩ := hw_1.next (zs := [.int .i64 0]) hkl1 rfl (by decide)
              have ho1 : 0 + k1 * 1 = (es1.flatMap fk).length := by rw [hp_1]; omega
              have hbz1 : ((decV 4 (decP [] v true) false true) (rMany (decV 4 (decP [] v true) false true) k1 (rArr true x0.2).2).2).2.bad = true → (decP fs_ListTransactionsRequest v true ⟨s, false, !a.isNone⟩).2.bad = true := fun h => hB1 (by rw [ex1]; exact rMany_mono (fun r h => decV_bad (fun r h => decP_bad _ _ _ r h) h) _ (show k1 + 1 ≤ (lT x1.1).length from hkl1) (by rw [rMany_succ]; exact h))
              have hLk1 : (rMany (decV 4 (decP [] v true) false true) k1 (rArr true x0.2).2).2.s.length ≤ BR := Nat.le_trans (rMany_shr (fun r => decV_shr (fun r => decP_shr _ _ _ r) r) _ _) hm1
              obtain ⟨y1, hy1⟩ : ∃ x, x = (decV 4 (decP [] v true) false true) (rMany (decV 4 (decP [] v true) false true) k1 (rArr true x0.2).2).2 := ⟨_, rfl⟩
              refine skt ?_
              refine sq ?_
              refine bl ?_
              refine sr ?_
              refine tf (.tail .head) ?_
              refine cl rfl rfl rfl (d4 hR_1 hy1) rfl (fun v_ H1 L1 hle_ hR_ => ?_)
              obtain ⟨N98, rfl, hR98, rfl, rfl⟩ := hR_
              refine asg rfl rfl ?_
              refine nl ?_
              refine rg ?_
              refine mv rfl rfl ?_
              refine mv rfl rfl ?_
              refine mv rfl rfl ?_
              refine ixk (j := k1) Tryd.runUnderlying134 Tryd.sizeOf2 rfl hga1 rfl rfl hkl1 rfl ?_
              refine stM (off := 0) Tryd.sizeOf2 rfl ho1 rfl rfl rfl (.tail .head) ?_
              refine nN ?_
              refine Nb ?_
              refine Nt ?_
              refine rg ?_
              refine mv rfl rfl ?_
              refine ad rfl rfl (c := ((k1 + 1 : Nat) : Int)) ((wrap32_le (by omega) (by omega)).trans (by omega)) rfl ?_
              refine asg rfl rfl ?_
              refine nN ?_
              have hfs1 := flatMap_snoc' fk es1 ((⟨([.int .i64 y1.1.n] : List Value), rfl, all_one rfl⟩, ((decV 4 (decP [] v true) false true) (rMany (decV 4 (decP [] v true) false true) k1 (rArr true x0.2).2).2).1) : KE 1)
              have hrw1 := hbk1 ([.int .i64 y1.1.n] : List Value) rfl
              refine tfN (.tail .head) ?_
              refine fun a_ w_ hA hw => ⟨hkl1, _, _, _, hA.sub ?_, le_6, hw, _, _, _, rfl, rfl, (by rw [rMany_succ, ← hy1]; exact hR98), (by rw [← hfs1]; exact hrw1), (dec_els he_1), (fun p hp => (mem_snoc hp).elim (fun h => RI64.mono _ _ _ _ (Fz.le.refl _) (hg_1 p h)) (fun h => h ▸ (by show RI64 _ ((decV 4 (decP [] v true) false true) (rMany (decV 4 (decP [] v true) false true) k1 (rArr true x0.2).2).2).1 [.int .i64 y1.1.n]; rw [← hy1]; rfl)))⟩
              exact (.cons rfl (.cons rfl (.cons rfl (.cons rfl (.cons rfl (.cons rfl (.cons rfl (.cons rfl (.cons rfl (.nil _))))))))))
            · skip
              have hkn_ : k1 = (lT x1.1).length := by omega
              subst hkn_
              have hw2_1 : Row 2 1 a1 (lT x1.1).length c1 (es1.flatMap fk) M1 := by have h := hw_1; rw [Nat.sub_self] at h; simpa [reps] using h
              refine frW hw2_1 .head (fun Hf1 hlf1 hfz1 => ?_)
              have hrs1 := RowsAt.row (R := RI64) hfz1 hs_1.symm hw2_1.le.1 (fun p hp => RI64.mono _ _ _ _ hlf1 (hg_1 p hp))
              rw [he_1] at hrs1
              have hf1 : ListAt Hf1 x1.1 1 RI64 a1 c1 := by rw [ex1]; exact listAt_of hrs1 hi1 (fun h => by have h1 := nul_le h; rw [show (lT x1.1).length = 0 by omega]; rfl)
              have hRx1 : RdAt Hf1 193 b_1 x1.2 RN1 := by rw [ex1]; exact (hR_1.mono hlf1)
              refine exX ?_
              refine XT ?_
              refine XT ?_
              refine Xb ?_
              refine Nt ?_
              refine sr ?_
              refine mv rfl rfl ?_
              refine asg rfl rfl ?_
              refine nl ?_
              refine rg ?_
              refine mv rfl rfl ?_
              refine mv rfl rfl ?_
              refine nc rfl rfl ?_
              refine fa0 F136_2 rfl rfl ?_
              refine st Tryd.sizeOf134 rfl rfl rfl rfl (.tail .head) ?_
              refine nl ?_
              refine sq ?_
              refine sr ?_
              refine mv rfl rfl ?_
              refine ge rfl rfl rfl ?_
              refine nl ?_
              refine cutT (fun l' H' L' => ∃ (Nj2 : Chunk), [(2, .bool true), (7, .pointer (some ⟨b_1, 0, none⟩)), (8, .int .i16 v), (9, .bool (decide ((0 : Int) ≤ v))), (10, .pointer (some ⟨b, 0, none⟩))] = l' ∧ Nj2 :: [(b, .cells [.int .i16 v, .slice a0 (lT x0.1).length c0, .slice a1 (lT x1.1).length c1, .int .i64 x2.1.n, .pointer none, .map none].toArray 136 (0, 0))] :: L = L' ∧ RdAt H' 193 b_1 x2.2 Nj2) ?_ (fun l' H' L' le_8 hI => ?_)
              · skip
                refine cd rfl (fun h109 => ?_) (fun h109 => ?_)
                · skip
                  refine sr ?_
                  have ex2 : x2 = decV 4 (decP [] v true) false true x1.2 := (hx2.trans (step_yes (by decide) (show (1 : Int) ≤ v by omega) (Or.inl (by decide)))).trans (decF'_val (by decide) (rfl))
                  refine cl rfl rfl rfl (d4 hRx1 ex2) rfl (fun v_ H1 L1 hle_ hR_ => ?_)
                  obtain ⟨N110, rfl, hR110, rfl, rfl⟩ := hR_
                  refine asg rfl rfl ?_
                  refine nl ?_
                  refine rg ?_
                  refine mv rfl rfl ?_
                  refine mv rfl rfl ?_
                  refine nc rfl rfl ?_
                  refine fa0 F136_3 rfl rfl ?_
                  refine st Tryd.sizeOf2 rfl rfl rfl rfl (.tail .head) ?_
                  refine nN ?_
                  refine fun a_ w_ hA hw => ⟨_, _, _, hA.sub ?_, (Fz.le.refl _), hw, N110, rfl, rfl, hR110⟩
                  exact (.cons rfl (.cons rfl (.cons rfl (.cons rfl (.cons rfl (.nil _))))))
                · skip
                  refine skN ?_
                  obtain rfl : x2 = ((Tr.mk (-1) [] false [] []), x1.2) := (hx2.trans (step_no (Or.inl (show v < (1 : Int) by omega)))).trans (by rw [dflF_eq]; rfl)
                  refine fun a_ w_ hA hw => ⟨_, _, _, hA.sub ?_, (Fz.le.refl _), hw, RN1, rfl, rfl, hRx1⟩
                  exact (.cons rfl (.cons rfl (.cons rfl (.cons rfl (.cons rfl (.nil _))))))
              · skip
                obtain ⟨Nj2, rfl, rfl, pj0⟩ := hI
                have hRj2 := pj0
                refine sq ?_
                refine sr ?_
                refine mv rfl rfl ?_
                refine ge rfl rfl rfl ?_
                refine nl ?_
                refine cutT (fun l' H' L' => ∃ (p3 : Option Addr), ∃ (Nj3 : Chunk), [(7, .pointer (some ⟨b_1, 0, none⟩)), (9, .bool (decide ((0 : Int) ≤ v))), (10, .pointer (some ⟨b, 0, none⟩))] = l' ∧ Nj3 :: [(b, .cells [.int .i16 v, .slice a0 (lT x0.1).length c0, .slice a1 (lT x1.1).length c1, .int .i64 x2.1.n, .pointer p3, .map none].toArray 136 (0, 0))] :: L = L' ∧ RdAt H' 193 b_1 x3.2 Nj3 ∧ TextAt H' x3.1 p3) ?_ (fun l' H' L' le_10 hI => ?_)
                · skip
                  refine cd rfl (fun h116 => ?_) (fun h116 => ?_)
                  · skip
                    refine sr ?_
                    refine asg rfl rfl ?_
                    refine nl ?_
                    refine sq ?_
                    refine sr ?_
                    refine mv rfl rfl ?_
                    refine nl ?_
                    refine cdT rfl (by omega) ?_
                    refine sr ?_
                    refine mv rfl rfl ?_
                    refine nl ?_
                    refine cT rfl ?_
                    refine rg ?_
                    have ex3 : x3 = decV 8 (decP [] v true) true true x2.2 := (hx3.trans (step_yes (by decide) (show (2 : Int) ≤ v by omega) (Or.inl (by decide)))).trans (decF'_val (by decide) (by simp only [Bool.and_eq_true, decide_eq_true_eq]; exact ⟨show (0 : Int) ≤ 2 by decide, show (2 : Int) ≤ v by omega⟩))
                    refine cl rfl rfl rfl (d8tnu hRj2 ex3) rfl (fun v_ H1 L1 le_11 hR_ => ?_)
                    obtain ⟨N119, rfl, hR119, p3, rfl, hf3⟩ := hR_
                    refine asg rfl rfl ?_
                    refine nl ?_
                    refine rg ?_
                    refine mv rfl rfl ?_
                    refine mv rfl rfl ?_
                    refine nc rfl rfl ?_
                    refine fa0 F136_4 rfl rfl ?_
                    refine st Tryd.sizeOf104 rfl rfl rfl rfl (.tail .head) ?_
                    refine nN ?_
                    refine fun a_ w_ hA hw => ⟨_, _, _, hA.sub ?_, le_11, hw, p3, N119, rfl, rfl, hR119, hf3⟩
                    exact (.cons rfl (.cons rfl (.cons rfl (.nil _))))
                  · skip
                    refine skN ?_
                    obtain rfl : x3 = ((Tr.mk 0 [] true [] []), x2.2) := (hx3.trans (step_no (Or.inl (show v < (2 : Int) by omega)))).trans (by rw [dflF_eq]; rfl)
                    refine fun a_ w_ hA hw => ⟨_, _, _, hA.sub ?_, (Fz.le.refl _), hw, none, Nj2, rfl, rfl, hRj2, TextAt.dfl⟩
                    exact (.cons rfl (.cons rfl (.cons rfl (.nil _))))
                · skip
                  obtain ⟨p3, Nj3, rfl, rfl, pj0, pj1⟩ := hI
                  have hRj3 := pj0
                  have hf3 := pj1
                  refine sq ?_
                  refine sr ?_
                  refine mv rfl rfl ?_
                  refine nl ?_
                  refine cdT rfl (by omega) ?_
                  refine rg ?_
                  refine mv rfl rfl ?_
                  refine cl rfl rfl rfl (d_tags hRj3) rfl (fun v_ H1 L1 le_12 hR_ => ?_)
                  obtain ⟨N130, rfl, hR130, mt, rfl, hft⟩ := hR_
                  have hu2 : u = rTags x3.2 := hu
                  rw [← hu2] at hR130 hft
                  refine nc rfl rfl ?_
                  refine fa0 F136_5 rfl rfl ?_
                  refine sa Tryd.sizeOf99 rfl rfl rfl rfl rfl (.tail .head) ?_
                  refine nl ?_
                  refine sr ?_
                  refine cl rfl rfl rfl (r_complete hR130 (he.mono (le_2.trans (le_3.trans (hlf0.trans (le_5.trans (le_6.trans (hlf1.trans (le_8.trans (le_10.trans le_12)))))))))) rfl (fun v_ H1 L1 hle_ hR_ => ?_)
                  obtain ⟨rfl, rfl, rfl⟩ := hR_
                  refine asg rfl rfl ?_
                  refine nl ?_
                  refine drW .head ?_
                  have hA_ := (show At_ListTransactionsRequest v _ (decP fs_ListTransactionsRequest v true _).1 [.int .i16 v, .slice a0 (lT x0.1).length c0, .slice a1 (lT x1.1).length c1, .int .i64 x2.1.n, .pointer p3, .map mt] from (by rw [hD]; exact ⟨a0, c0, a1, c1, p3, mt, rfl, (hf0.mono RText.mono (le_5.trans (le_6.trans (hlf1.trans (le_8.trans (le_10.trans le_12)))))), (hf1.mono RI64.mono (le_8.trans (le_10.trans le_12))), (hf3.mono le_12), hft⟩))
                  refine rT rfl rfl (le_2.trans (le_3.trans (hlf0.trans (le_5.trans (le_6.trans (hlf1.trans (le_8.trans (le_10.trans le_12)))))))) (fun _ _ h => h) ⟨_, rfl, ?_⟩
                  have hz := RdEnd.of (e := e) hA_
                  rw [show (decP fs_ListTransactionsRequest v true _).2.bad = u.2.bad by rw [hD]] at hz
                  exact hz
end Go.Sx
