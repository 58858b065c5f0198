import Derived.Test.YtjjkeefebiiolaaDoorSxTab
import Derived.Test.YtjjkeefebiiolaaDoorBSASLHandshakeResponse
import Derived.Test.YtjjkeefebiiolaaDoorRK2
import Derived.KernelRfl
set_option linter.unusedVariables false
set_option linter.unusedSimpArgs false
set_option maxRecDepth 100000
set_option maxHeartbeats 20000000
namespace Go.Sx
open Go.Proofs
theorem def0_SASLHandshakeResponse {H : Fz} {L : Own} {b : Nat} {c0 c1 c2 : Value} :
    Fn Tryd.prog 38 [.pointer (some ⟨b, 0, none⟩)] H ([(b, .cells [c0, c1, c2].toArray 75 (0, 0))] :: L) (fun _ H' L' => H = H' ∧ L' = [(b, .cells [c0, c1, c2].toArray 75 (0, 0))] :: L) := by
  refine Fn.mk Tryd.call38 Tryd.func38 rfl Tryd.ntmps38 rfl ?_
  refine skN ?_
  exact fun _ _ hA hw => rn rfl (Fz.le.refl _) ⟨rfl, rfl⟩ hA hw
theorem rd_SASLHandshakeResponse_f {H : Fz} {L : Own} {b : Nat} {v : Int} {a : Option Addr} {c : Nat} {s : List UInt8} {e : Value} (hB : BytesAt H a c s) (hL_ : s.length ≤ BR) (he : H.at 1 0 [e]) (hv0 : 0 ≤ v) (hv1 : v ≤ 1) :
    Fn Tryd.prog 39 [.pointer (some ⟨b, 0, none⟩), .slice a s.length c, .bool false] H ([(b, .cells [.int .i16 v, .int .i16 0, .slice none 0 0].toArray 75 (0, 0))] :: L) (fun r H' L' => ∃ cs : List Value, L' = [(b, .cells cs.toArray 75 (0, 0))] :: L ∧ RdEnd H' (At_SASLHandshakeResponse v) (decP fs_SASLHandshakeResponse v false ⟨s, false, !a.isNone⟩) e r cs) := by
  refine Fn.mk Tryd.call39 Tryd.func39 rfl Tryd.ntmps39 rfl ?_
  refine sr ?_
  refine asg rfl rfl ?_
  refine nl ?_
  refine sr ?_
  refine mv rfl rfl ?_
  refine cl rfl rfl rfl def0_SASLHandshakeResponse rfl (fun v_ H1 L1 hle_ hR_ => ?_)
  obtain ⟨rfl, rfl⟩ := hR_
  refine nl ?_
  refine sr ?_
  refine mv rfl rfl ?_
  refine bd' S95 rfl rfl rfl ?_
  refine al Tryd.zeroValue95 rfl rfl (fun b_1 => ?_)
  refine sa Tryd.sizeOf95 rfl rfl rfl rfl rfl .head ?_
  have hR0_ : RdAt H 95 b_1 ⟨s, false, !a.isNone⟩ [(b_1, .cells [_, _].toArray 95 (0, 0))] := ⟨a, c, rfl, hB, by simp⟩
  obtain ⟨x0, hx0⟩ : ∃ x, x = stepF (Fd.mk 2 0 (-1) (-1) (-1) 0 0 []) v false ⟨s, false, !a.isNone⟩ := ⟨_, rfl⟩
  obtain ⟨x1, hx1⟩ : ∃ x, x = stepF (Fd.mk 11 0 (-1) (-1) (-1) 0 8 []) v false x0.2 := ⟨_, rfl⟩
  obtain ⟨u, hu⟩ : ∃ x, x = tailU false x1.2 := ⟨_, rfl⟩
  have hD : decP fs_SASLHandshakeResponse v false ⟨s, false, !a.isNone⟩ = (.mk 0 [] false [x0.1, x1.1] u.1, u.2) := by
    generalize (⟨s, false, !a.isNone⟩ : Rd) = r_ at hx0 ⊢
    rw [decP_eq]; unfold fs_SASLHandshakeResponse; simp only [decFs_cons, decFs_nil, ← hx0, ← hx1, ← hu]
  have hL0 : x0.2.s.length ≤ BR := by rw [hx0]; exact Nat.le_trans (stepF_shr _ _ _ _) hL_
  have hL1 : x1.2.s.length ≤ BR := by rw [hx1]; exact Nat.le_trans (stepF_shr _ _ _ _) hL0
  have hE : u.2.bad = true → (decP fs_SASLHandshakeResponse v false ⟨s, false, !a.isNone⟩).2.bad = true := fun h => by rw [hD]; exact h
  have hB1 : x1.2.bad = true → (decP fs_SASLHandshakeResponse v false ⟨s, false, !a.isNone⟩).2.bad = true := fun h => hE (by rw [hu]; exact tailU_bad h)
  have hB0 : x0.2.bad = true → (decP fs_SASLHandshakeResponse v false ⟨s, false, !a.isNone⟩).2.bad = true := fun h => hB1 (by rw [hx1]; exact step_bad h)
  refine nl ?_
  refine sr ?_
  refine mv rfl rfl ?_
  refine nc rfl rfl ?_
  refine fa0 F75_0 rfl rfl ?_
  refine ld (Says.own (.tail .head)) Tryd.isAgg46 rfl (Nat.zero_add _).symm rfl rfl ?_
  refine asg rfl rfl ?_
  refine nl ?_
  refine sr ?_
  refine mv rfl rfl ?_
  refine nl ?_
  refine sr ?_
  refine mv rfl rfl ?_
  refine asg rfl rfl ?_
  refine nl ?_
  refine sq ?_
  refine sr ?_
  have ex0 : x0 = decV 2 (decP [] v false) false false ⟨s, false, !a.isNone⟩ := (hx0.trans (step_yes (by decide) (show (0 : Int) ≤ v by omega) (Or.inl (by decide)))).trans (decF'_val (by decide) (rfl))
  refine cl rfl rfl rfl (d2 hR0_ ex0) rfl (fun v_ H1 L1 hle_ hR_ => ?_)
  obtain ⟨N26, rfl, hR26, rfl, rfl⟩ := hR_
  refine asg rfl rfl ?_
  refine nl ?_
  refine rg ?_
  refine mv rfl rfl ?_
  refine mv rfl rfl ?_
  refine nc rfl rfl ?_
  refine fa0 F75_1 rfl rfl ?_
  refine st Tryd.sizeOf46 rfl rfl rfl rfl (.tail .head) ?_
  refine nl ?_
  refine sq ?_
  refine sr ?_
  refine mv rfl rfl ?_
  refine nc rfl rfl ?_
  refine fa0 F75_2 rfl rfl ?_
  refine ld (Says.own (.tail .head)) Tryd.isAgg73 rfl (Nat.zero_add _).symm rfl rfl ?_
  refine asg rfl rfl ?_
  refine nl ?_
  refine sr ?_
  refine mv rfl rfl ?_
  refine asg rfl rfl ?_
  refine nl ?_
  refine sr ?_
  refine asg rfl rfl ?_
  refine nl ?_
  refine sr ?_
  have ey1 : x1 = (.mk 0 [] (if 0 ≤ ((-1) : Int) ∧ (v < ((-1) : Int) ∨ (rArr false x0.2).1 = 0) then false else decide ((rArr false x0.2).1 ≤ 0)) (rMany (decV 8 (decP [] v false) false false) (rArr false x0.2).1.toNat (rArr false x0.2).2).1 [], (rMany (decV 8 (decP [] v false) false false) (rArr false x0.2).1.toNat (rArr false x0.2).2).2) := (hx1.trans (step_yes (by decide) (show (0 : Int) ≤ v by omega) (Or.inl (by decide)))).trans (decF'_list rfl rfl)
  have hn1 : (rArr false x0.2).1.toNat = (lT x1.1).length := by rw [ey1]; exact (lT_many nul_le).symm
  have ex1 := ey1
  rw [hn1] at ex1
  have hl1 := rArr_le false x0.2
  have hm1 : (rArr false x0.2).2.s.length ≤ BR := Nat.le_trans (rArr_len false x0.2) hL0
  have hnb1 : (lT x1.1).length ≤ BR := by omega
  refine cl rfl rfl rfl (r_arrf hR26) rfl (fun v_ H1 L1 hle_ hR_ => ?_)
  obtain ⟨rfl, N36, rfl, hR36, rfl⟩ := hR_
  have hh1 := rArr_hi false x0.2
  refine asg rfl rfl ?_
  refine nl ?_
  refine sq ?_
  refine sr ?_
  refine cl rfl rfl rfl (r_ok hR36) rfl (fun v_ H1 L1 hle_ hR_ => ?_)
  obtain ⟨rfl, rfl, rfl⟩ := hR_
  refine nt rfl rfl ?_
  refine nl ?_
  refine cb rfl (fun h38 => ?_) (fun h38 => ?_)
  · skip
    have hbad_ : (rArr false x0.2).2.bad = true := by simpa using h38
    refine sr ?_
    refine cl rfl rfl rfl (r_complete hR36 he) rfl (fun v_ H1 L1 hle_ hR_ => ?_)
    obtain ⟨rfl, rfl, rfl⟩ := hR_
    refine asg rfl rfl ?_
    refine nl ?_
    refine drW .head ?_
    exact rT rfl rfl (Fz.le.refl _) (fun _ _ h => h) ⟨_, rfl, RdEnd.out (hB1 (by rw [ey1]; exact rMany_bad (fun r h => decV_bad (decP_bad _ _ _) h) _ _ hbad_)) hbad_⟩
  · skip
    refine skt ?_
    refine sr ?_
    refine mv rfl rfl ?_
    refine sh' (j := 0) Tryd.runUnderlying73 Tryd.sizeOf9 rfl rfl rfl (Nat.zero_le _) rfl ?_
    refine asg rfl rfl ?_
    refine nl ?_
    refine sq ?_
    refine sr ?_
    refine mv rfl rfl ?_
    refine gt rfl rfl rfl ?_
    refine nl ?_
    refine nulC2 ?_
    refine cutT (fun l' H' L' => ∃ (a1 : Option Addr), ∃ (c1 : Nat), ∃ (Nr1 : Chunk), [(2, .bool false), (7, .pointer (some ⟨b_1, 0, none⟩)), (9, .pointer (some ⟨b, 0, none⟩)), (11, .slice none 0 0), (12, .slice a1 (lT x1.1).length c1), (13, .int .i32 (rArr false x0.2).1)] = l' ∧ Nr1 :: N36 :: [(b, .cells [.int .i16 v, .int .i16 (IntKind.i16.wrap x0.1.n), .slice none 0 0].toArray 75 (0, 0))] :: L = L' ∧ Row 9 1 a1 (lT x1.1).length c1 (reps [.string ⟨#[]⟩] (lT x1.1).length) Nr1 ∧ a1.isNone = (if 0 ≤ ((-1) : Int) ∧ (v < ((-1) : Int) ∨ (rArr false x0.2).1 = 0) then false else decide ((rArr false x0.2).1 ≤ 0))) ?_ (fun l' H' L' le_3 hI => ?_)
    · skip
      refine cd rfl (fun h43 => ?_) (fun h43 => ?_)
      · skip
        refine rg ?_
        refine mv rfl rfl ?_
        refine mv rfl rfl ?_
        refine apz (zs := [.string ⟨#[]⟩]) (m := (lT x1.1).length) Tryd.underlying73 Tryd.underlying21 I9 rfl rfl rfl (by omega) (by omega) (by have h9 := hnb1; unfold BR at h9; omega) (by have h9 := hnb1; unfold BR at h9; unfold maxLen; omega) rfl (fun g46 cp46 N46 r46 => ?_)
        refine asg rfl rfl ?_
        refine nN ?_
        refine drN (.tail .head) ?_
        refine fun a_ w_ hA hw => ⟨_, _, _, hA.sub ?_, (Fz.le.refl _), hw, (some ⟨g46, 0, none⟩), cp46, N46, rfl, rfl, r46, (by rw [if_neg (by omega)]; exact (decide_eq_false (by omega)).symm)⟩
        exact (.cons rfl (.cons rfl (.cons rfl (.cons rfl (.cons rfl (.cons rfl (.nil _)))))))
      · skip
        refine skN ?_
        refine fun a_ w_ hA hw => ⟨_, _, _, hA.sub ?_, (Fz.le.refl _), hw, none, 0, [], rfl, rfl, (by rw [show (lT x1.1).length = 0 by omega]; exact (Row.nil _ _)), (by rw [if_neg (by omega)]; exact (decide_eq_true (by omega)).symm)⟩
        exact (.cons rfl (.cons rfl (.cons rfl (.cons rfl (.cons (by rw [show (lT x1.1).length = 0 by omega]; rfl) (.cons rfl (.nil _)))))))
    · skip
      obtain ⟨a1, c1, Nr1, rfl, rfl, pj0, pj1⟩ := hI
      have hr1 := pj0
      have hi1 := pj1
      refine sq ?_
      refine sr ?_
      refine asg rfl rfl ?_
      refine nl ?_
      refine bl (lp ((lT x1.1).length) (fun k1 l' H' L' => ∃ (es1 : List (KE 1)) (M1 RN1 : Chunk), [(2, .bool false), (7, .pointer (some ⟨b_1, 0, none⟩)), (9, .pointer (some ⟨b, 0, none⟩)), (11, .slice none 0 0), (12, .slice a1 (lT x1.1).length c1), (13, .int .i32 (rArr false x0.2).1), (14, .int .i32 (k1 : Int))] = l' ∧ M1 :: RN1 :: [(b, .cells [.int .i16 v, .int .i16 (IntKind.i16.wrap x0.1.n), .slice none 0 0].toArray 75 (0, 0))] :: L = L' ∧ RdAt H' 95 b_1 (rMany (decV 8 (decP [] v false) false false) k1 (rArr false x0.2).2).2 RN1 ∧ Row 9 1 a1 (lT x1.1).length c1 (es1.flatMap fk ++ reps [.string ⟨#[]⟩] ((lT x1.1).length - k1)) M1 ∧ es1.map (·.2) = (rMany (decV 8 (decP [] v false) false false) k1 (rArr false x0.2).2).1 ∧ ∀ p ∈ es1, RText H' p.2 (fk p)) [(2, .bool false), (7, .pointer (some ⟨b_1, 0, none⟩)), (9, .pointer (some ⟨b, 0, none⟩)), (11, .slice none 0 0), (12, .slice a1 (lT x1.1).length c1), (13, .int .i32 (rArr false x0.2).1), (14, .int .i32 (0 : Int))] (.cons rfl (.cons rfl (.cons rfl (.cons rfl (.cons rfl (.cons rfl (.cons rfl (.nil _)))))))) ⟨[], Nr1, _, rfl, rfl, (hR36.mono le_3), hr1, rfl, (fun p hp => by cases hp)⟩ (fun k1 l' H' L' hk1 le_4 hI => ?_))
      obtain ⟨es1, M1, RN1, rfl, rfl, hR_1, hw_1, he_1, hg_1⟩ := hI
      have hs_1 := els_len he_1
      have hp_1 : (es1.flatMap fk).length = k1 * 1 := els_flat hs_1
      refine sq ?_
      refine sr ?_
      refine mv rfl rfl ?_
      refine mv rfl rfl ?_
      refine lt rfl rfl rfl ?_
      refine nl ?_
      refine cd rfl (fun h49 => ?_) (fun h49 => ?_)
      · skip
        have hkl1 : k1 < (lT x1.1).length := by omega
        obtain ⟨g1, po1, hga1, rfl, hbk1⟩ := hw_1.next (zs := [.string ⟨#[]⟩]) hkl1 rfl (by decide)
        have ho1 : 0 + k1 * 1 = (es1.flatMap fk).length := by rw [hp_1]; omega
        have hbz1 : ((decV 8 (decP [] v false) false false) (rMany (decV 8 (decP [] v false) false false) k1 (rArr false x0.2).2).2).2.bad = true → (decP fs_SASLHandshakeResponse v false ⟨s, false, !a.isNone⟩).2.bad = true := fun h => hB1 (by rw [ex1]; exact rMany_mono (fun r h => decV_bad (fun r h => decP_bad _ _ _ r h) h) _ (show k1 + 1 ≤ (lT x1.1).length from hkl1) (by rw [rMany_succ]; exact h))
        have hLk1 : (rMany (decV 8 (decP [] v false) false false) k1 (rArr false x0.2).2).2.s.length ≤ BR := Nat.le_trans (rMany_shr (fun r => decV_shr (fun r => decP_shr _ _ _ r) r) _ _) hm1
        obtain ⟨y1, hy1⟩ : ∃ x, x = (decV 8 (decP [] v false) false false) (rMany (decV 8 (decP [] v false) false false) k1 (rArr false x0.2).2).2 := ⟨_, rfl⟩
        refine skt ?_
        refine sq ?_
        refine bl ?_
        refine sr ?_
        refine asg rfl rfl ?_
        refine nl ?_
        refine sq ?_
        refine sr ?_
        refine mv rfl rfl ?_
        refine nl ?_
        refine cF rfl ?_
        refine rg ?_
        refine tf (.tail .head) ?_
        refine cl rfl rfl rfl (d8f hR_1 hy1) rfl (fun v_ H1 L1 hle_ hR_ => ?_)
        obtain ⟨N54, rfl, hR54, rfl, rfl⟩ := hR_
        refine asg rfl rfl ?_
        refine nl ?_
        refine rg ?_
        refine mv rfl rfl ?_
        refine mv rfl rfl ?_
        refine mv rfl rfl ?_
        refine ixk (j := k1) Tryd.runUnderlying73 Tryd.sizeOf9 rfl hga1 rfl rfl hkl1 rfl ?_
        refine stM (off := 0) Tryd.sizeOf9 rfl ho1 rfl rfl rfl (.tail .head) ?_
        refine nN ?_
        refine Nb ?_
        refine Nt ?_
        refine rg ?_
        refine mv rfl rfl ?_
        refine ad rfl rfl (c := ((k1 + 1 : Nat) : Int)) ((wrap32_le (by omega) (by omega)).trans (by omega)) rfl ?_
        refine asg rfl rfl ?_
        refine nN ?_
        have hfs1 := flatMap_snoc' fk es1 ((⟨([.string ⟨y1.1.s.toArray⟩] : List Value), rfl, all_one rfl⟩, ((decV 8 (decP [] v false) false false) (rMany (decV 8 (decP [] v false) false false) k1 (rArr false x0.2).2).2).1) : KE 1)
        have hrw1 := hbk1 ([.string ⟨y1.1.s.toArray⟩] : List Value) rfl
        refine tfN (.tail .head) ?_
        refine fun a_ w_ hA hw => ⟨hkl1, _, _, _, hA.sub ?_, le_4, hw, _, _, _, rfl, rfl, (by rw [rMany_succ, ← hy1]; exact hR54), (by rw [← hfs1]; exact hrw1), (dec_els he_1), (fun p hp => (mem_snoc hp).elim (fun h => RText.mono _ _ _ _ (Fz.le.refl _) (hg_1 p h)) (fun h => h ▸ (by show RText _ ((decV 8 (decP [] v false) false false) (rMany (decV 8 (decP [] v false) false false) k1 (rArr false x0.2).2).2).1 [.string ⟨y1.1.s.toArray⟩]; rw [← hy1]; rfl)))⟩
        exact (.cons rfl (.cons rfl (.cons rfl (.cons rfl (.cons rfl (.cons rfl (.cons rfl (.nil _))))))))
      · skip
        have hkn_ : k1 = (lT x1.1).length := by omega
        subst hkn_
        have hw2_1 : Row 9 1 a1 (lT x1.1).length c1 (es1.flatMap fk) M1 := by have h := hw_1; rw [Nat.sub_self] at h; simpa [reps] using h
        refine frW hw2_1 .head (fun Hf1 hlf1 hfz1 => ?_)
        have hrs1 := RowsAt.row (R := RText) hfz1 hs_1.symm hw2_1.le.1 (fun p hp => RText.mono _ _ _ _ hlf1 (hg_1 p hp))
        rw [he_1] at hrs1
        have hf1 : ListAt Hf1 x1.1 1 RText a1 c1 := by rw [ex1]; exact listAt_of hrs1 hi1 (fun h => by have h1 := nul_le h; rw [show (lT x1.1).length = 0 by omega]; rfl)
        have hRx1 : RdAt Hf1 95 b_1 x1.2 RN1 := by rw [ex1]; exact (hR_1.mono hlf1)
        refine exX ?_
        refine XT ?_
        refine XT ?_
        refine Xb ?_
        refine Nt ?_
        refine sr ?_
        refine mv rfl rfl ?_
        refine asg rfl rfl ?_
        refine nl ?_
        refine rg ?_
        refine mv rfl rfl ?_
        refine mv rfl rfl ?_
        refine nc rfl rfl ?_
        refine fa0 F75_2 rfl rfl ?_
        refine st Tryd.sizeOf73 rfl rfl rfl rfl (.tail .head) ?_
        refine nl ?_
        refine sr ?_
        refine cl rfl rfl rfl (r_complete hRx1 (he.mono (le_3.trans (le_4.trans hlf1)))) rfl (fun v_ H1 L1 hle_ hR_ => ?_)
        obtain ⟨rfl, rfl, rfl⟩ := hR_
        refine asg rfl rfl ?_
        refine nl ?_
        refine drW .head ?_
        obtain rfl : u = ([], x1.2) := hu
        have hA_ := (show At_SASLHandshakeResponse v _ (decP fs_SASLHandshakeResponse v false _).1 [.int .i16 v, .int .i16 (IntKind.i16.wrap x0.1.n), .slice a1 (lT x1.1).length c1] from (by rw [hD]; exact ⟨a1, c1, rfl, hf1⟩))
        refine rT rfl rfl (le_3.trans (le_4.trans hlf1)) (fun _ _ h => h) ⟨_, rfl, ?_⟩
        have hz := RdEnd.of (e := e) hA_
        rw [show (decP fs_SASLHandshakeResponse v false _).2.bad = x1.2.bad by rw [hD]] at hz
        exact hz
end Go.Sx
