import Derived.Test.YtjpidbdhoiagpaaGreatDoorSxTab
import Derived.Test.YtjpidbdhoiagpaaGreatDoorBAlterUserSCRAMCredentialsRequest
import Derived.Test.YtjpidbdhoiagpaaGreatDoorRK2
import Derived.KernelRfl
set_option linter.unusedVariables false
set_option linter.unusedSimpArgs false
set_option maxRecDepth 100000
set_option maxHeartbeats 20000000
namespace Go.Sx
open Go.Proofs
theorem def_AlterUserSCRAMCredentialsRequestDeletion {H : Fz} {L : Own} {b o : Nat} {pre post : List Value} {c0 c1 c2 : Value} (ho : o = pre.length) :
  Fn Tryz.prog 92 [.pointer (some ⟨b, o, none⟩)] H ([(b, .cells (pre ++ ([c0, c1, c2] : List Value) ++ post).toArray 124 (0, 0))] :: L) (fun _ H' L' => H = H' ∧ L' = [(b, .cells (pre ++ ([c0, c1, c2] : List Value) ++ post).toArray 124 (0, 0))] :: L) := by
 refine Fn.mk Tryz.call92 Tryz.func92 rfl Tryz.ntmps92 rfl ?_
 refine skN ?_
 exact fun _ _ hA hw => rn rfl ler ⟨rfl, rfl⟩ hA hw
theorem def_AlterUserSCRAMCredentialsRequestUpsertion {H : Fz} {L : Own} {b o : Nat} {pre post : List Value} {c0 c1 c2 c3 c4 c5 : Value} (ho : o = pre.length) :
  Fn Tryz.prog 99 [.pointer (some ⟨b, o, none⟩)] H ([(b, .cells (pre ++ ([c0, c1, c2, c3, c4, c5] : List Value) ++ post).toArray 131 (0, 0))] :: L) (fun _ H' L' => H = H' ∧ L' = [(b, .cells (pre ++ ([c0, c1, c2, c3, c4, c5] : List Value) ++ post).toArray 131 (0, 0))] :: L) := by
 refine Fn.mk Tryz.call99 Tryz.func99 rfl Tryz.ntmps99 rfl ?_
 refine skN ?_
 exact fun _ _ hA hw => rn rfl ler ⟨rfl, rfl⟩ hA hw
theorem def0_AlterUserSCRAMCredentialsRequest {H : Fz} {L : Own} {b : Nat} {c0 c1 c2 c3 : Value} :
  Fn Tryz.prog 61 [.pointer (some ⟨b, 0, none⟩)] H ([(b, .cells [c0, c1, c2, c3].toArray 77 (0, 0))] :: L) (fun _ H' L' => H = H' ∧ L' = [(b, .cells [c0, c1, c2, c3].toArray 77 (0, 0))] :: L) := by
 refine Fn.mk Tryz.call61 Tryz.func61 rfl Tryz.ntmps61 rfl ?_
 refine skN ?_
 exact fun _ _ hA hw => rn rfl ler ⟨rfl, rfl⟩ hA hw
theorem rd_AlterUserSCRAMCredentialsRequest_t {H : Fz} {L : Own} {b : Nat} {v : Int} {a : Option Addr} {c : Nat} {s : List UInt8} {e : Value} (hB : BytesAt H a c s) (hL_ : s.length ≤ BR) (he : H.at 0 0 [e]) (hv0 : 0 ≤ v) (hv1 : v ≤ 0) :
  Fn Tryz.prog 70 [.pointer (some ⟨b, 0, none⟩), .slice a s.length c, .bool false] H ([(b, .cells [.int .i16 v, .slice none 0 0, .slice none 0 0, .map none].toArray 77 (0, 0))] :: L) (fun r H' L' => ∃ cs : List Value, L' = [(b, .cells cs.toArray 77 (0, 0))] :: L ∧ RdEnd H' (At_AlterUserSCRAMCredentialsRequest v) (decP fs_AlterUserSCRAMCredentialsRequest v true ⟨s, false, !a.isNone⟩) e r cs) := by
 refine Fn.mk Tryz.call70 Tryz.func70 rfl Tryz.ntmps70 rfl ?_
 refine sr ?_
 refine asg rfl rfl ?_
 refine nl ?_
 refine sr ?_
 refine mv rfl rfl ?_
 refine cl rfl rfl rfl def0_AlterUserSCRAMCredentialsRequest rfl (fun v_ H1 L1 hle_ hR_ => ?_)
 obtain ⟨rfl, rfl⟩ := hR_
 refine nl ?_
 refine sr ?_
 refine mv rfl rfl ?_
 refine bd' S118 rfl rfl rfl ?_
 refine al Tryz.zeroValue118 rfl rfl (fun b_1 => ?_)
 refine sa Tryz.sizeOf118 rfl rfl rfl rfl rfl .head ?_
 have hR0_ : RdAt H 118 b_1 ⟨s, false, !a.isNone⟩ [(b_1, .cells [_, _].toArray 118 (0, 0))] := ⟨a, c, rfl, hB, by simp⟩
 obtain ⟨x0, hx0⟩ : ∃ x, x = stepF (Fd.mk 11 0 (-1) (-1) (-1) 0 10 fs_sAlterUserSCRAMCredentialsRequestDeletion) v true ⟨s, false, !a.isNone⟩ := ⟨_, rfl⟩
 obtain ⟨x1, hx1⟩ : ∃ x, x = stepF (Fd.mk 11 0 (-1) (-1) (-1) 0 10 fs_sAlterUserSCRAMCredentialsRequestUpsertion) v true x0.2 := ⟨_, rfl⟩
 obtain ⟨u, hu⟩ : ∃ x, x = tailU true x1.2 := ⟨_, rfl⟩
 have hD : decP fs_AlterUserSCRAMCredentialsRequest v true ⟨s, false, !a.isNone⟩ = (.mk 0 [] false [x0.1, x1.1] u.1, u.2) := by
  generalize (⟨s, false, !a.isNone⟩ : Rd) = r_ at hx0 ⊢
  rw [decP_eq]; unfold fs_AlterUserSCRAMCredentialsRequest; simp only [decFs_cons, decFs_nil, ← hx0, ← hx1, ← hu]
 have hL0 : x0.2.s.length ≤ BR := by rw [hx0]; exact Nat.le_trans (stepF_shr _ _ _ _) hL_
 have hL1 : x1.2.s.length ≤ BR := by rw [hx1]; exact Nat.le_trans (stepF_shr _ _ _ _) hL0
 have hE : u.2.bad = true → (decP fs_AlterUserSCRAMCredentialsRequest v true ⟨s, false, !a.isNone⟩).2.bad = true := fun h => by rw [hD]; exact h
 have hB1 : x1.2.bad = true → (decP fs_AlterUserSCRAMCredentialsRequest v true ⟨s, false, !a.isNone⟩).2.bad = true := fun h => hE (by rw [hu]; exact tailU_bad h)
 have hB0 : x0.2.bad = true → (decP fs_AlterUserSCRAMCredentialsRequest v true ⟨s, false, !a.isNone⟩).2.bad = true := fun h => hB1 (by rw [hx1]; exact step_bad h)
 refine nl ?_
 refine sr ?_
 refine mv rfl rfl ?_
 refine nc rfl rfl ?_
 refine fa0 F77_0 rfl rfl ?_
 refine ld (Says.own (.tail .head)) Tryz.isAgg45 rfl (Nat.zero_add _).symm rfl rfl ?_
 refine asg rfl rfl ?_
 refine nl ?_
 refine sr ?_
 refine mv rfl rfl ?_
 refine nl ?_
 refine sr ?_
 refine mv rfl rfl ?_
 refine ge rfl rfl rfl ?_
 refine asg rfl rfl ?_
 refine nl ?_
 refine sr ?_
 refine mv rfl rfl ?_
 refine nl ?_
 refine sr ?_
 refine mv rfl rfl ?_
 refine asg rfl rfl ?_
 refine nl ?_
 refine sq ?_
 refine sr ?_
 refine mv rfl rfl ?_
 refine nc rfl rfl ?_
 refine fa0 F77_1 rfl rfl ?_
 refine ld (Says.own (.tail .head)) Tryz.isAgg71 rfl (Nat.zero_add _).symm rfl rfl ?_
 refine asg rfl rfl ?_
 refine nl ?_
 refine sr ?_
 refine mv rfl rfl ?_
 refine asg rfl rfl ?_
 refine nl ?_
 refine sr ?_
 refine asg rfl rfl ?_
 refine nl ?_
 refine sq ?_
 refine sr ?_
 refine mv rfl rfl ?_
 refine nl ?_
 refine cdT rfl (by omega) ?_
 refine rg ?_
 have ey0 : x0 = (.mk 0 [] (if 0 ≤ ((-1) : Int) ∧ (v < ((-1) : Int) ∨ (rArr true ⟨s, false, !a.isNone⟩).1 = 0) then false else decide ((rArr true ⟨s, false, !a.isNone⟩).1 ≤ 0)) (rMany (decV 10 (decP fs_sAlterUserSCRAMCredentialsRequestDeletion v true) false true) (rArr true ⟨s, false, !a.isNone⟩).1.toNat (rArr true ⟨s, false, !a.isNone⟩).2).1 [], (rMany (decV 10 (decP fs_sAlterUserSCRAMCredentialsRequestDeletion v true) false true) (rArr true ⟨s, false, !a.isNone⟩).1.toNat (rArr true ⟨s, false, !a.isNone⟩).2).2) := (hx0.trans (step_yes (by decide) (show (0 : Int) ≤ v by omega) (Or.inl (by decide)))).trans (decF'_list rfl rfl)
 have hn0 : (rArr true ⟨s, false, !a.isNone⟩).1.toNat = (lT x0.1).length := by rw [ey0]; exact (lT_many nul_le).symm
 have ex0 := ey0
 rw [hn0] at ex0
 have hl0 := rArr_le true ⟨s, false, !a.isNone⟩
 have hm0 : (rArr true ⟨s, false, !a.isNone⟩).2.s.length ≤ BR := Nat.le_trans (rArr_len true ⟨s, false, !a.isNone⟩) hL_
 have hnb0 : (lT x0.1).length ≤ BR := by omega
 refine cl rfl rfl rfl (r_arrt hR0_) rfl (fun v_ H1 L1 hle_ hR_ => ?_)
 obtain ⟨rfl, N49, rfl, hR49, rfl⟩ := hR_
 have hh0 := rArr_hi true ⟨s, false, !a.isNone⟩
 refine asg rfl rfl ?_
 refine nl ?_
 refine sq ?_
 refine sr ?_
 refine cl rfl rfl rfl (r_ok hR49) rfl (fun v_ H1 L1 hle_ hR_ => ?_)
 obtain ⟨rfl, rfl, rfl⟩ := hR_
 refine nt rfl rfl ?_
 refine nl ?_
 refine cb rfl (fun h52 => ?_) (fun h52 => ?_)
 ·
  have hbad_ : (rArr true ⟨s, false, !a.isNone⟩).2.bad = true := by simpa using h52
  refine sr ?_
  refine cl rfl rfl rfl (r_complete hR49 he) rfl (fun v_ H1 L1 hle_ hR_ => ?_)
  obtain ⟨rfl, rfl, rfl⟩ := hR_
  refine asg rfl rfl ?_
  refine nl ?_
  refine drW .head ?_
  exact rT rfl rfl ler (fun _ _ h => h) ⟨_, rfl, RdEnd.out (hB0 (by rw [ey0]; exact rMany_bad (fun r h => decV_bad (decP_bad _ _ _) h) _ _ hbad_)) hbad_⟩
 ·
  refine skt ?_
  refine sr ?_
  refine mv rfl rfl ?_
  refine sh' (j := 0) Tryz.runUnderlying71 Tryz.sizeOf124 rfl rfl rfl (Nat.zero_le _) rfl ?_
  refine asg rfl rfl ?_
  refine nl ?_
  refine sq ?_
  refine sr ?_
  refine mv rfl rfl ?_
  refine gt rfl rfl rfl ?_
  refine nl ?_
  refine nulC2 ?_
  refine cutT (fun l' H' L' => ∃ (a0 : Option Addr), ∃ (c0 : Nat), ∃ (Nr0 : Chunk), [(2, .bool false), (7, .pointer (some ⟨b_1, 0, none⟩)), (9, .bool (decide ((0 : Int) ≤ v))), (10, .pointer (some ⟨b, 0, none⟩)), (11, .slice none 0 0), (12, .slice a0 (lT x0.1).length c0), (13, .int .i32 (rArr true ⟨s, false, !a.isNone⟩).1)] = l' ∧ Nr0 :: N49 :: [(b, .cells [.int .i16 v, .slice none 0 0, .slice none 0 0, .map none].toArray 77 (0, 0))] :: L = L' ∧ Row 124 3 a0 (lT x0.1).length c0 (reps [.string ⟨#[]⟩, .int .i8 0, .map none] (lT x0.1).length) Nr0 ∧ a0.isNone = (if 0 ≤ ((-1) : Int) ∧ (v < ((-1) : Int) ∨ (rArr true ⟨s, false, !a.isNone⟩).1 = 0) then false else decide ((rArr true ⟨s, false, !a.isNone⟩).1 ≤ 0))) ?_ (fun l' H' L' le_2 hI => ?_)
  ·
   refine cd rfl (fun h57 => ?_) (fun h57 => ?_)
   ·
    refine rg ?_
    refine mv rfl rfl ?_
    refine mv rfl rfl ?_
    refine apz (zs := [.string ⟨#[]⟩, .int .i8 0, .map none]) (m := (lT x0.1).length) Tryz.underlying71 Tryz.underlying21 I124 rfl rfl rfl (by omega) (by omega) (by have h9 := hnb0; unfold BR at h9; omega) (by have h9 := hnb0; unfold BR at h9; unfold maxLen; omega) rfl (fun g60 cp60 N60 r60 => ?_)
    refine asg rfl rfl ?_
    refine nN ?_
    refine drN (.tail .head) ?_
    refine fun a_ w_ hA hw => ⟨_, _, _, hA.sub ?_, ler, hw, (some ⟨g60, 0, none⟩), cp60, N60, rfl, rfl, r60, (by rw [if_neg (by omega)]; exact (decide_eq_false (by omega)).symm)⟩
    exact (.cons rfl (.cons rfl (.cons rfl (.cons rfl (.cons rfl (.cons rfl (.cons rfl (.nil _))))))))
   ·
    refine skN ?_
    refine fun a_ w_ hA hw => ⟨_, _, _, hA.sub ?_, ler, hw, none, 0, [], rfl, rfl, (by rw [show (lT x0.1).length = 0 by omega]; exact (Row.nil _ _)), (by rw [if_neg (by omega)]; exact (decide_eq_true (by omega)).symm)⟩
    exact (.cons rfl (.cons rfl (.cons rfl (.cons rfl (.cons rfl (.cons (by rw [show (lT x0.1).length = 0 by omega]; rfl) (.cons rfl (.nil _))))))))
  ·
   obtain ⟨a0, c0, Nr0, rfl, rfl, pj0, pj1⟩ := hI
   have hr0 := pj0
   have hi0 := pj1
   refine sq ?_
   refine sr ?_
   refine asg rfl rfl ?_
   refine nl ?_
   refine bl (lp ((lT x0.1).length) (fun k0 l' H' L' => ∃ (es0 : List (KE 3)) (M0 RN0 : Chunk), [(2, .bool false), (7, .pointer (some ⟨b_1, 0, none⟩)), (9, .bool (decide ((0 : Int) ≤ v))), (10, .pointer (some ⟨b, 0, none⟩)), (11, .slice none 0 0), (12, .slice a0 (lT x0.1).length c0), (13, .int .i32 (rArr true ⟨s, false, !a.isNone⟩).1), (14, .int .i32 (k0 : Int))] = l' ∧ M0 :: RN0 :: [(b, .cells [.int .i16 v, .slice none 0 0, .slice none 0 0, .map none].toArray 77 (0, 0))] :: L = L' ∧ RdAt H' 118 b_1 (rMany (decV 10 (decP fs_sAlterUserSCRAMCredentialsRequestDeletion v true) false true) k0 (rArr true ⟨s, false, !a.isNone⟩).2).2 RN0 ∧ Row 124 3 a0 (lT x0.1).length c0 (es0.flatMap fk ++ reps [.string ⟨#[]⟩, .int .i8 0, .map none] ((lT x0.1).length - k0)) M0 ∧ es0.map (·.2) = (rMany (decV 10 (decP fs_sAlterUserSCRAMCredentialsRequestDeletion v true) false true) k0 (rArr true ⟨s, false, !a.isNone⟩).2).1 ∧ ∀ p ∈ es0, At_AlterUserSCRAMCredentialsRequestDeletion H' p.2 (fk p)) [(2, .bool false), (7, .pointer (some ⟨b_1, 0, none⟩)), (9, .bool (decide ((0 : Int) ≤ v))), (10, .pointer (some ⟨b, 0, none⟩)), (11, .slice none 0 0), (12, .slice a0 (lT x0.1).length c0), (13, .int .i32 (rArr true ⟨s, false, !a.isNone⟩).1), (14, .int .i32 (0 : Int))] (.of ⟨rfl, rfl, rfl, rfl, rfl, rfl, rfl, rfl, trivial⟩) ⟨[], Nr0, _, rfl, rfl, (hR49.mono le_2), hr0, rfl, (fun p hp => by cases hp)⟩ (fun k0 l' H' L' hk0 le_3 hI => ?_))
   obtain ⟨es0, M0, RN0, rfl, rfl, hR_0, hw_0, he_0, hg_0⟩ := hI
   have hs_0 := els_len he_0
   have hp_0 : (es0.flatMap fk).length = k0 * 3 := els_flat hs_0
   refine sq ?_
   refine sr ?_
   refine mv rfl rfl ?_
   refine mv rfl rfl ?_
   refine lt rfl rfl rfl ?_
   refine nl ?_
   refine cd rfl (fun h63 => ?_) (fun h63 => ?_)
   ·
    have hkl0 : k0 < (lT x0.1).length := by omega
    obtain ⟨g0, po0, hga0, rfl, hbk0⟩ := hw_0.next (zs := [.string ⟨#[]⟩, .int .i8 0, .map none]) hkl0 rfl (by decide)
    have ho0 : 0 + k0 * 3 = (es0.flatMap fk).length := by rw [hp_0]; omega
    have hbz0 : ((decV 10 (decP fs_sAlterUserSCRAMCredentialsRequestDeletion v true) false true) (rMany (decV 10 (decP fs_sAlterUserSCRAMCredentialsRequestDeletion v true) false true) k0 (rArr true ⟨s, false, !a.isNone⟩).2).2).2.bad = true → (decP fs_AlterUserSCRAMCredentialsRequest v true ⟨s, false, !a.isNone⟩).2.bad = true := fun h => hB0 (by rw [ex0]; exact rMany_mono (fun r h => decV_bad (fun r h => decP_bad _ _ _ r h) h) _ (show k0 + 1 ≤ (lT x0.1).length from hkl0) (by rw [rMany_succ]; exact h))
    have hLk0 : (rMany (decV 10 (decP fs_sAlterUserSCRAMCredentialsRequestDeletion v true) false true) k0 (rArr true ⟨s, false, !a.isNone⟩).2).2.s.length ≤ BR := Nat.le_trans (rMany_shr (fun r => decV_shr (fun r => decP_shr _ _ _ r) r) _ _) hm0
    have hL0__ := hLk0
    obtain ⟨x0_0, hx0_0⟩ : ∃ x, x = stepF (Fd.mk 8 0 (-1) (-1) (-1) 0 0 []) v true (rMany (decV 10 (decP fs_sAlterUserSCRAMCredentialsRequestDeletion v true) false true) k0 (rArr true ⟨s, false, !a.isNone⟩).2).2 := ⟨_, rfl⟩
    obtain ⟨x0_1, hx0_1⟩ : ∃ x, x = stepF (Fd.mk 1 0 (-1) (-1) (-1) 0 0 []) v true x0_0.2 := ⟨_, rfl⟩
    obtain ⟨u0_, hu0_⟩ : ∃ x, x = tailU true x0_1.2 := ⟨_, rfl⟩
    have hD0_ : decP fs_sAlterUserSCRAMCredentialsRequestDeletion v true (rMany (decV 10 (decP fs_sAlterUserSCRAMCredentialsRequestDeletion v true) false true) k0 (rArr true ⟨s, false, !a.isNone⟩).2).2 = (.mk 0 [] false [x0_0.1, x0_1.1] u0_.1, u0_.2) := by
     generalize ((rMany (decV 10 (decP fs_sAlterUserSCRAMCredentialsRequestDeletion v true) false true) k0 (rArr true ⟨s, false, !a.isNone⟩).2).2 : Rd) = r_ at hx0_0 ⊢
     rw [decP_eq]; unfold fs_sAlterUserSCRAMCredentialsRequestDeletion; simp only [decFs_cons, decFs_nil, ← hx0_0, ← hx0_1, ← hu0_]
    have hL0_0 : x0_0.2.s.length ≤ BR := by rw [hx0_0]; exact Nat.le_trans (stepF_shr _ _ _ _) hL0__
    have hL0_1 : x0_1.2.s.length ≤ BR := by rw [hx0_1]; exact Nat.le_trans (stepF_shr _ _ _ _) hL0_0
    have hE0_ : u0_.2.bad = true → (decP fs_AlterUserSCRAMCredentialsRequest v true ⟨s, false, !a.isNone⟩).2.bad = true := fun h => hbz0 (by show (decP fs_sAlterUserSCRAMCredentialsRequestDeletion v true (rMany (decV 10 (decP fs_sAlterUserSCRAMCredentialsRequestDeletion v true) false true) k0 (rArr true ⟨s, false, !a.isNone⟩).2).2).2.bad = true; rw [hD0_]; exact h)
    have hB0_1 : x0_1.2.bad = true → (decP fs_AlterUserSCRAMCredentialsRequest v true ⟨s, false, !a.isNone⟩).2.bad = true := fun h => hE0_ (by rw [hu0_]; exact tailU_bad h)
    have hB0_0 : x0_0.2.bad = true → (decP fs_AlterUserSCRAMCredentialsRequest v true ⟨s, false, !a.isNone⟩).2.bad = true := fun h => hB0_1 (by rw [hx0_1]; exact step_bad h)
    refine skt ?_
    refine sq ?_
    refine bl ?_
    refine sr ?_
    refine mv rfl rfl ?_
    refine mv rfl rfl ?_
    refine ixk (j := k0) Tryz.runUnderlying71 Tryz.sizeOf124 rfl hga0 rfl rfl hkl0 rfl ?_
    refine asg rfl rfl ?_
    refine nl ?_
    refine sr ?_
    refine mv rfl rfl ?_
    refine cl rfl rfl rfl (def_AlterUserSCRAMCredentialsRequestDeletion ho0) rfl (fun v_ H1 L1 hle_ hR_ => ?_)
    obtain ⟨rfl, rfl⟩ := hR_
    refine nl ?_
    refine sr ?_
    refine mv rfl rfl ?_
    refine asg rfl rfl ?_
    refine nl ?_
    refine sq ?_
    refine sr ?_
    refine asg rfl rfl ?_
    refine nl ?_
    refine sq ?_
    refine sr ?_
    refine mv rfl rfl ?_
    refine nl ?_
    refine cF rfl ?_
    refine sr ?_
    refine mv rfl rfl ?_
    refine nl ?_
    refine cdT rfl (by omega) ?_
    refine rg ?_
    refine tf (.tail .head) ?_
    have ex0_0 : x0_0 = decV 8 (decP [] v true) false true (rMany (decV 10 (decP fs_sAlterUserSCRAMCredentialsRequestDeletion v true) false true) k0 (rArr true ⟨s, false, !a.isNone⟩).2).2 := (hx0_0.trans (step_yes (by decide) (show (0 : Int) ≤ v by omega) (Or.inl (by decide)))).trans (decF'_val (by decide) (rfl))
    refine cl rfl rfl rfl (d8t hR_0 ex0_0) rfl (fun v_ H1 L1 le_4 hR_ => ?_)
    obtain ⟨N77, rfl, hR77, rfl, rfl⟩ := hR_
    refine asg rfl rfl ?_
    refine nl ?_
    refine rg ?_
    refine mv rfl rfl ?_
    refine mv rfl rfl ?_
    refine nc rfl rfl ?_
    refine fa F124_0 rfl rfl ?_
    refine stM (off := 0) Tryz.sizeOf9 rfl (by rw [ho0]) rfl rfl rfl (.tail .head) ?_
    refine nl ?_
    refine sq ?_
    refine sr ?_
    have ex0_1 : x0_1 = decV 1 (decP [] v true) false true x0_0.2 := (hx0_1.trans (step_yes (by decide) (show (0 : Int) ≤ v by omega) (Or.inl (by decide)))).trans (decF'_val (by decide) (rfl))
    refine cl rfl rfl rfl (d1 hR77 ex0_1) rfl (fun v_ H1 L1 hle_ hR_ => ?_)
    obtain ⟨N83, rfl, hR83, rfl, rfl⟩ := hR_
    refine asg rfl rfl ?_
    refine nl ?_
    refine rg ?_
    refine mv rfl rfl ?_
    refine mv rfl rfl ?_
    refine nc rfl rfl ?_
    refine fa F124_1 rfl rfl ?_
    refine stM (off := 1) Tryz.sizeOf105 rfl (by rw [ho0]) rfl rfl rfl (.tail .head) ?_
    refine nl ?_
    refine sr ?_
    refine mv rfl rfl ?_
    refine nl ?_
    refine cdT rfl (by omega) ?_
    refine rg ?_
    refine mv rfl rfl ?_
    refine cl rfl rfl rfl (d_tags hR83) rfl (fun v_ H1 L1 le_6 hR_ => ?_)
    obtain ⟨N90, rfl, hR90, m0_t, rfl, hft0_⟩ := hR_
    have hu20_ : u0_ = rTags x0_1.2 := hu0_
    rw [← hu20_] at hR90 hft0_
    refine nc rfl rfl ?_
    refine fa F124_2 rfl rfl ?_
    refine saM (off := 2) Tryz.sizeOf75 rfl (by rw [ho0]) rfl rfl rfl rfl (.tail .head) ?_
    refine nN ?_
    refine Nb ?_
    refine Nt ?_
    refine rg ?_
    refine mv rfl rfl ?_
    refine ad rfl rfl (c := ((k0 + 1 : Nat) : Int)) ((wrap32_le (by omega) (by omega)).trans (by omega)) rfl ?_
    refine asg rfl rfl ?_
    refine nN ?_
    have hfs0 := flatMap_snoc' fk es0 ((⟨([.string ⟨x0_0.1.s.toArray⟩, .int .i8 (IntKind.i8.wrap x0_1.1.n), .map m0_t] : List Value), rfl, all_one rfl⟩, ((decV 10 (decP fs_sAlterUserSCRAMCredentialsRequestDeletion v true) false true) (rMany (decV 10 (decP fs_sAlterUserSCRAMCredentialsRequestDeletion v true) false true) k0 (rArr true ⟨s, false, !a.isNone⟩).2).2).1) : KE 3)
    have hrw0 := hbk0 ([.string ⟨x0_0.1.s.toArray⟩, .int .i8 (IntKind.i8.wrap x0_1.1.n), .map m0_t] : List Value) rfl
    refine tfN (.tail .head) ?_
    refine fun a_ w_ hA hw => ⟨hkl0, _, _, _, hA.sub ?_, (le_3.trans le_6), hw, _, _, _, rfl, rfl, (by rw [rMany_succ]; show RdAt _ 118 b_1 (decP fs_sAlterUserSCRAMCredentialsRequestDeletion v true (rMany (decV 10 (decP fs_sAlterUserSCRAMCredentialsRequestDeletion v true) false true) k0 (rArr true ⟨s, false, !a.isNone⟩).2).2).2 _; rw [hD0_]; exact hR90), (by rw [← hfs0]; exact hrw0), (dec_els he_0), (fun p hp => (mem_snoc hp).elim (fun h => At_AlterUserSCRAMCredentialsRequestDeletion.mono _ _ _ _ le_6 (hg_0 p h)) (fun h => h ▸ (by show At_AlterUserSCRAMCredentialsRequestDeletion _ (decP fs_sAlterUserSCRAMCredentialsRequestDeletion v true (rMany (decV 10 (decP fs_sAlterUserSCRAMCredentialsRequestDeletion v true) false true) k0 (rArr true ⟨s, false, !a.isNone⟩).2).2).1 [.string ⟨x0_0.1.s.toArray⟩, .int .i8 (IntKind.i8.wrap x0_1.1.n), .map m0_t]; rw [hD0_]; exact ⟨m0_t, rfl, hft0_⟩)))⟩
    exact (.of ⟨rfl, rfl, rfl, rfl, rfl, rfl, rfl, rfl, trivial⟩)
   ·
    have hkn_ : k0 = (lT x0.1).length := by omega
    subst hkn_
    have hw2_0 : Row 124 3 a0 (lT x0.1).length c0 (es0.flatMap fk) M0 := by have h := hw_0; rw [Nat.sub_self] at h; simpa [reps] using h
    refine frW hw2_0 .head (fun Hf0 hlf0 hfz0 => ?_)
    have hrs0 := RowsAt.row (R := At_AlterUserSCRAMCredentialsRequestDeletion) hfz0 hs_0.symm hw2_0.le.1 (fun p hp => At_AlterUserSCRAMCredentialsRequestDeletion.mono _ _ _ _ hlf0 (hg_0 p hp))
    rw [he_0] at hrs0
    have hf0 : ListAt Hf0 x0.1 3 At_AlterUserSCRAMCredentialsRequestDeletion a0 c0 := by rw [ex0]; exact listAt_of hrs0 hi0 (fun h => by have h1 := nul_le h; rw [show (lT x0.1).length = 0 by omega]; rfl)
    have hRx0 : RdAt Hf0 118 b_1 x0.2 RN0 := by rw [ex0]; exact (hR_0.mono hlf0)
    refine exX ?_
    refine XT ?_
    refine XT ?_
    refine Xb ?_
    refine Nt ?_
    refine sr ?_
    refine mv rfl rfl ?_
    refine asg rfl rfl ?_
    refine nl ?_
    refine rg ?_
    refine mv rfl rfl ?_
    refine mv rfl rfl ?_
    refine nc rfl rfl ?_
    refine fa0 F77_1 rfl rfl ?_
    refine st Tryz.sizeOf71 rfl rfl rfl rfl (.tail .head) ?_
    refine nl ?_
    refine sq ?_
    refine sr ?_
    refine mv rfl rfl ?_
    refine nc rfl rfl ?_
    refine fa0 F77_2 rfl rfl ?_
    refine ld (Says.own (.tail .head)) Tryz.isAgg72 rfl (Nat.zero_add _).symm rfl rfl ?_
    refine asg rfl rfl ?_
    refine nl ?_
    refine sr ?_
    refine mv rfl rfl ?_
    refine asg rfl rfl ?_
    refine nl ?_
    refine sr ?_
    refine asg rfl rfl ?_
    refine nl ?_
    refine sq ?_
    refine sr ?_
    refine mv rfl rfl ?_
    refine nl ?_
    refine cdT rfl (by omega) ?_
    refine rg ?_
    have ey1 : x1 = (.mk 0 [] (if 0 ≤ ((-1) : Int) ∧ (v < ((-1) : Int) ∨ (rArr true x0.2).1 = 0) then false else decide ((rArr true x0.2).1 ≤ 0)) (rMany (decV 10 (decP fs_sAlterUserSCRAMCredentialsRequestUpsertion v true) false true) (rArr true x0.2).1.toNat (rArr true x0.2).2).1 [], (rMany (decV 10 (decP fs_sAlterUserSCRAMCredentialsRequestUpsertion v true) false true) (rArr true x0.2).1.toNat (rArr true x0.2).2).2) := (hx1.trans (step_yes (by decide) (show (0 : Int) ≤ v by omega) (Or.inl (by decide)))).trans (decF'_list rfl rfl)
    have hn1 : (rArr true x0.2).1.toNat = (lT x1.1).length := by rw [ey1]; exact (lT_many nul_le).symm
    have ex1 := ey1
    rw [hn1] at ex1
    have hl1 := rArr_le true x0.2
    have hm1 : (rArr true x0.2).2.s.length ≤ BR := Nat.le_trans (rArr_len true x0.2) hL0
    have hnb1 : (lT x1.1).length ≤ BR := by omega
    refine cl rfl rfl rfl (r_arrt hRx0) rfl (fun v_ H1 L1 hle_ hR_ => ?_)
    obtain ⟨rfl, N104, rfl, hR104, rfl⟩ := hR_
    have hh1 := rArr_hi true x0.2
    refine asg rfl rfl ?_
    refine nl ?_
    refine sq ?_
    refine sr ?_
    refine cl rfl rfl rfl (r_ok hR104) rfl (fun v_ H1 L1 hle_ hR_ => ?_)
    obtain ⟨rfl, rfl, rfl⟩ := hR_
    refine nt rfl rfl ?_
    refine nl ?_
    refine cb rfl (fun h107 => ?_) (fun h107 => ?_)
    ·
     have hbad_ : (rArr true x0.2).2.bad = true := by simpa using h107
     refine sr ?_
     refine cl rfl rfl rfl (r_complete hR104 (he.mono (le_2.trans (le_3.trans hlf0)))) rfl (fun v_ H1 L1 hle_ hR_ => ?_)
     obtain ⟨rfl, rfl, rfl⟩ := hR_
     refine asg rfl rfl ?_
     refine nl ?_
     refine drW .head ?_
     exact rT rfl rfl (le_2.trans (le_3.trans hlf0)) (fun _ _ h => h) ⟨_, rfl, RdEnd.out (hB1 (by rw [ey1]; exact rMany_bad (fun r h => decV_bad (decP_bad _ _ _) h) _ _ hbad_)) hbad_⟩
    ·
     refine skt ?_
     refine sr ?_
     refine mv rfl rfl ?_
     refine sh' (j := 0) Tryz.runUnderlying72 Tryz.sizeOf131 rfl rfl rfl (Nat.zero_le _) rfl ?_
     refine asg rfl rfl ?_
     refine nl ?_
     refine sq ?_
     refine sr ?_
     refine mv rfl rfl ?_
     refine gt rfl rfl rfl ?_
     refine nl ?_
     refine nulC2 ?_
     refine cutT (fun l' H' L' => ∃ (a1 : Option Addr), ∃ (c1 : Nat), ∃ (Nr1 : Chunk), [(2, .bool false), (7, .pointer (some ⟨b_1, 0, none⟩)), (9, .bool (decide ((0 : Int) ≤ v))), (10, .pointer (some ⟨b, 0, none⟩)), (19, .slice none 0 0), (20, .slice a1 (lT x1.1).length c1), (21, .int .i32 (rArr true x0.2).1)] = l' ∧ Nr1 :: N104 :: [(b, .cells [.int .i16 v, .slice a0 (lT x0.1).length c0, .slice none 0 0, .map none].toArray 77 (0, 0))] :: L = L' ∧ Row 131 6 a1 (lT x1.1).length c1 (reps [.string ⟨#[]⟩, .int .i8 0, .int .i32 0, .slice none 0 0, .slice none 0 0, .map none] (lT x1.1).length) Nr1 ∧ a1.isNone = (if 0 ≤ ((-1) : Int) ∧ (v < ((-1) : Int) ∨ (rArr true x0.2).1 = 0) then false else decide ((rArr true x0.2).1 ≤ 0))) ?_ (fun l' H' L' le_7 hI => ?_)
     ·
      refine cd rfl (fun h112 => ?_) (fun h112 => ?_)
      ·
       refine rg ?_
       refine mv rfl rfl ?_
       refine mv rfl rfl ?_
       refine apz (zs := [.string ⟨#[]⟩, .int .i8 0, .int .i32 0, .slice none 0 0, .slice none 0 0, .map none]) (m := (lT x1.1).length) Tryz.underlying72 Tryz.underlying21 I131 rfl rfl rfl (by omega) (by omega) (by have h9 := hnb1; unfold BR at h9; omega) (by have h9 := hnb1; unfold BR at h9; unfold maxLen; omega) rfl (fun g115 cp115 N115 r115 => ?_)
       refine asg rfl rfl ?_
       refine nN ?_
       refine drN (.tail .head) ?_
       refine fun a_ w_ hA hw => ⟨_, _, _, hA.sub ?_, ler, hw, (some ⟨g115, 0, none⟩), cp115, N115, rfl, rfl, r115, (by rw [if_neg (by omega)]; exact (decide_eq_false (by omega)).symm)⟩
       exact (.cons rfl (.cons rfl (.cons rfl (.cons rfl (.cons rfl (.cons rfl (.cons rfl (.nil _))))))))
      ·
       refine skN ?_
       refine fun a_ w_ hA hw => ⟨_, _, _, hA.sub ?_, ler, hw, none, 0, [], rfl, rfl, (by rw [show (lT x1.1).length = 0 by omega]; exact (Row.nil _ _)), (by rw [if_neg (by omega)]; exact (decide_eq_true (by omega)).symm)⟩
       exact (.cons rfl (.cons rfl (.cons rfl (.cons rfl (.cons rfl (.cons (by rw [show (lT x1.1).length = 0 by omega]; rfl) (.cons rfl (.nil _))))))))
     ·
      obtain ⟨a1, c1, Nr1, rfl, rfl, pj0, pj1⟩ := hI
      have hr1 := pj0
      have hi1 := pj1
      refine sq ?_
      refine sr ?_
      refine asg rfl rfl ?_
      refine nl ?_
      refine bl (lp ((lT x1.1).length) (fun k1 l' H' L' => ∃ (es1 : List (KE 6)) (M1 RN1 : Chunk), [(2, .bool false), (7, .pointer (some ⟨b_1, 0, none⟩)), (9, .bool (decide ((0 : Int) ≤ v))), (10, .pointer (some ⟨b, 0, none⟩)), (19, .slice none 0 0), (20, .slice a1 (lT x1.1).length c1), (21, .int .i32 (rArr true x0.2).1), (22, .int .i32 (k1 : Int))] = l' ∧ M1 :: RN1 :: [(b, .cells [.int .i16 v, .slice a0 (lT x0.1).length c0, .slice none 0 0, .map none].toArray 77 (0, 0))] :: L = L' ∧ RdAt H' 118 b_1 (rMany (decV 10 (decP fs_sAlterUserSCRAMCredentialsRequestUpsertion v true) false true) k1 (rArr true x0.2).2).2 RN1 ∧ Row 131 6 a1 (lT x1.1).length c1 (es1.flatMap fk ++ reps [.string ⟨#[]⟩, .int .i8 0, .int .i32 0, .slice none 0 0, .slice none 0 0, .map none] ((lT x1.1).length - k1)) M1 ∧ es1.map (·.2) = (rMany (decV 10 (decP fs_sAlterUserSCRAMCredentialsRequestUpsertion v true) false true) k1 (rArr true x0.2).2).1 ∧ ∀ p ∈ es1, At_AlterUserSCRAMCredentialsRequestUpsertion H' p.2 (fk p)) [(2, .bool false), (7, .pointer (some ⟨b_1, 0, none⟩)), (9, .bool (decide ((0 : Int) ≤ v))), (10, .pointer (some ⟨b, 0, none⟩)), (19, .slice none 0 0), (20, .slice a1 (lT x1.1).length c1), (21, .int .i32 (rArr true x0.2).1), (22, .int .i32 (0 : Int))] (.of ⟨rfl, rfl, rfl, rfl, rfl, rfl, rfl, rfl, trivial⟩) ⟨[], Nr1, _, rfl, rfl, (hR104.mono le_7), hr1, rfl, (fun p hp => by cases hp)⟩ (fun k1 l' H' L' hk1 le_8 hI => ?_))
      obtain ⟨es1, M1, RN1, rfl, rfl, hR_1, hw_1, he_1, hg_1⟩ := hI
      have hs_1 := els_len he_1
      have hp_1 : (es1.flatMap fk).length = k1 * 6 := els_flat hs_1
      refine sq ?_
      refine sr ?_
      refine mv rfl rfl ?_
      refine mv rfl rfl ?_
      refine lt rfl rfl rfl ?_
      refine nl ?_
      refine cd rfl (fun h118 => ?_) (fun h118 => ?_)
      ·
       have hkl1 : k1 < (lT x1.1).length := by omega
       obtain ⟨g1, po1, hga1, rfl, hbk1⟩ := hw_1.next (zs := [.string ⟨#[]⟩, .int .i8 0, .int .i32 0, .slice none 0 0, .slice none 0 0, .map none]) hkl1 rfl (by decide)
       have ho1 : 0 + k1 * 6 = (es1.flatMap fk).length := by rw [hp_1]; omega
       have hbz1 : ((decV 10 (decP fs_sAlterUserSCRAMCredentialsRequestUpsertion v true) false true) (rMany (decV 10 (decP fs_sAlterUserSCRAMCredentialsRequestUpsertion v true) false true) k1 (rArr true x0.2).2).2).2.bad = true → (decP fs_AlterUserSCRAMCredentialsRequest v true ⟨s, false, !a.isNone⟩).2.bad = true := fun h => hB1 (by rw [ex1]; exact rMany_mono (fun r h => decV_bad (fun r h => decP_bad _ _ _ r h) h) _ (show k1 + 1 ≤ (lT x1.1).length from hkl1) (by rw [rMany_succ]; exact h))
       have hLk1 : (rMany (decV 10 (decP fs_sAlterUserSCRAMCredentialsRequestUpsertion v true) false true) k1 (rArr true x0.2).2).2.s.length ≤ BR := Nat.le_trans (rMany_shr (fun r => decV_shr (fun r => decP_shr _ _ _ r) r) _ _) hm1
       have hL1__ := hLk1
       obtain ⟨x1_0, hx1_0⟩ : ∃ x, x = stepF (Fd.mk 8 0 (-1) (-1) (-1) 0 0 []) v true (rMany (decV 10 (decP fs_sAlterUserSCRAMCredentialsRequestUpsertion v true) false true) k1 (rArr true x0.2).2).2 := ⟨_, rfl⟩
       obtain ⟨x1_1, hx1_1⟩ : ∃ x, x = stepF (Fd.mk 1 0 (-1) (-1) (-1) 0 0 []) v true x1_0.2 := ⟨_, rfl⟩
       obtain ⟨x1_2, hx1_2⟩ : ∃ x, x = stepF (Fd.mk 3 0 (-1) (-1) (-1) 0 0 []) v true x1_1.2 := ⟨_, rfl⟩
       obtain ⟨x1_3, hx1_3⟩ : ∃ x, x = stepF (Fd.mk 9 0 (-1) (-1) (-1) 0 0 []) v true x1_2.2 := ⟨_, rfl⟩
       obtain ⟨x1_4, hx1_4⟩ : ∃ x, x = stepF (Fd.mk 9 0 (-1) (-1) (-1) 0 0 []) v true x1_3.2 := ⟨_, rfl⟩
       obtain ⟨u1_, hu1_⟩ : ∃ x, x = tailU true x1_4.2 := ⟨_, rfl⟩
       have hD1_ : decP fs_sAlterUserSCRAMCredentialsRequestUpsertion v true (rMany (decV 10 (decP fs_sAlterUserSCRAMCredentialsRequestUpsertion v true) false true) k1 (rArr true x0.2).2).2 = (.mk 0 [] false [x1_0.1, x1_1.1, x1_2.1, x1_3.1, x1_4.1] u1_.1, u1_.2) := by
        generalize ((rMany (decV 10 (decP fs_sAlterUserSCRAMCredentialsRequestUpsertion v true) false true) k1 (rArr true x0.2).2).2 : Rd) = r_ at hx1_0 ⊢
        rw [decP_eq]; unfold fs_sAlterUserSCRAMCredentialsRequestUpsertion; simp only [decFs_cons, decFs_nil, ← hx1_0, ← hx1_1, ← hx1_2, ← hx1_3, ← hx1_4, ← hu1_]
       have hL1_0 : x1_0.2.s.length ≤ BR := by rw [hx1_0]; exact Nat.le_trans (stepF_shr _ _ _ _) hL1__
       have hL1_1 : x1_1.2.s.length ≤ BR := by rw [hx1_1]; exact Nat.le_trans (stepF_shr _ _ _ _) hL1_0
       have hL1_2 : x1_2.2.s.length ≤ BR := by rw [hx1_2]; exact Nat.le_trans (stepF_shr _ _ _ _) hL1_1
       have hL1_3 : x1_3.2.s.length ≤ BR := by rw [hx1_3]; exact Nat.le_trans (stepF_shr _ _ _ _) hL1_2
       have hL1_4 : x1_4.2.s.length ≤ BR := by rw [hx1_4]; exact Nat.le_trans (stepF_shr _ _ _ _) hL1_3
       have hE1_ : u1_.2.bad = true → (decP fs_AlterUserSCRAMCredentialsRequest v true ⟨s, false, !a.isNone⟩).2.bad = true := fun h => hbz1 (by show (decP fs_sAlterUserSCRAMCredentialsRequestUpsertion v true (rMany (decV 10 (decP fs_sAlterUserSCRAMCredentialsRequestUpsertion v true) false true) k1 (rArr true x0.2).2).2).2.bad = true; rw [hD1_]; exact h)
       have hB1_4 : x1_4.2.bad = true → (decP fs_AlterUserSCRAMCredentialsRequest v true ⟨s, false, !a.isNone⟩).2.bad = true := fun h => hE1_ (by rw [hu1_]; exact tailU_bad h)
       have hB1_3 : x1_3.2.bad = true → (decP fs_AlterUserSCRAMCredentialsRequest v true ⟨s, false, !a.isNone⟩).2.bad = true := fun h => hB1_4 (by rw [hx1_4]; exact step_bad h)
       have hB1_2 : x1_2.2.bad = true → (decP fs_AlterUserSCRAMCredentialsRequest v true ⟨s, false, !a.isNone⟩).2.bad = true := fun h => hB1_3 (by rw [hx1_3]; exact step_bad h)
       have hB1_1 : x1_1.2.bad = true → (decP fs_AlterUserSCRAMCredentialsRequest v true ⟨s, false, !a.isNone⟩).2.bad = true := fun h => hB1_2 (by rw [hx1_2]; exact step_bad h)
       have hB1_0 : x1_0.2.bad = true → (decP fs_AlterUserSCRAMCredentialsRequest v true ⟨s, false, !a.isNone⟩).2.bad = true := fun h => hB1_1 (by rw [hx1_1]; exact step_bad h)
       refine skt ?_
       refine sq ?_
       refine bl ?_
       refine sr ?_
       refine mv rfl rfl ?_
       refine mv rfl rfl ?_
       refine ixk (j := k1) Tryz.runUnderlying72 Tryz.sizeOf131 rfl hga1 rfl rfl hkl1 rfl ?_
       refine asg rfl rfl ?_
       refine nl ?_
       refine sr ?_
       refine mv rfl rfl ?_
       refine cl rfl rfl rfl (def_AlterUserSCRAMCredentialsRequestUpsertion ho1) rfl (fun v_ H1 L1 hle_ hR_ => ?_)
       obtain ⟨rfl, rfl⟩ := hR_
       refine nl ?_
       refine sr ?_
       refine mv rfl rfl ?_
       refine asg rfl rfl ?_
       refine nl ?_
       refine sq ?_
       refine sr ?_
       refine asg rfl rfl ?_
       refine nl ?_
       refine sq ?_
       refine sr ?_
       refine mv rfl rfl ?_
       refine nl ?_
       refine cF rfl ?_
       refine sr ?_
       refine mv rfl rfl ?_
       refine nl ?_
       refine cdT rfl (by omega) ?_
       refine rg ?_
       refine tf (.tail .head) ?_
       have ex1_0 : x1_0 = decV 8 (decP [] v true) false true (rMany (decV 10 (decP fs_sAlterUserSCRAMCredentialsRequestUpsertion v true) false true) k1 (rArr true x0.2).2).2 := (hx1_0.trans (step_yes (by decide) (show (0 : Int) ≤ v by omega) (Or.inl (by decide)))).trans (decF'_val (by decide) (rfl))
       refine cl rfl rfl rfl (d8t hR_1 ex1_0) rfl (fun v_ H1 L1 le_9 hR_ => ?_)
       obtain ⟨N132, rfl, hR132, rfl, rfl⟩ := hR_
       refine asg rfl rfl ?_
       refine nl ?_
       refine rg ?_
       refine mv rfl rfl ?_
       refine mv rfl rfl ?_
       refine nc rfl rfl ?_
       refine fa F131_0 rfl rfl ?_
       refine stM (off := 0) Tryz.sizeOf9 rfl (by rw [ho1]) rfl rfl rfl (.tail .head) ?_
       refine nl ?_
       refine sq ?_
       refine sr ?_
       have ex1_1 : x1_1 = decV 1 (decP [] v true) false true x1_0.2 := (hx1_1.trans (step_yes (by decide) (show (0 : Int) ≤ v by omega) (Or.inl (by decide)))).trans (decF'_val (by decide) (rfl))
       refine cl rfl rfl rfl (d1 hR132 ex1_1) rfl (fun v_ H1 L1 hle_ hR_ => ?_)
       obtain ⟨N138, rfl, hR138, rfl, rfl⟩ := hR_
       refine asg rfl rfl ?_
       refine nl ?_
       refine rg ?_
       refine mv rfl rfl ?_
       refine mv rfl rfl ?_
       refine nc rfl rfl ?_
       refine fa F131_1 rfl rfl ?_
       refine stM (off := 1) Tryz.sizeOf105 rfl (by rw [ho1]) rfl rfl rfl (.tail .head) ?_
       refine nl ?_
       refine sq ?_
       refine sr ?_
       have ex1_2 : x1_2 = decV 3 (decP [] v true) false true x1_1.2 := (hx1_2.trans (step_yes (by decide) (show (0 : Int) ≤ v by omega) (Or.inl (by decide)))).trans (decF'_val (by decide) (rfl))
       refine cl rfl rfl rfl (d3 hR138 ex1_2) rfl (fun v_ H1 L1 hle_ hR_ => ?_)
       obtain ⟨N143, rfl, hR143, rfl, rfl⟩ := hR_
       refine asg rfl rfl ?_
       refine nl ?_
       refine rg ?_
       refine mv rfl rfl ?_
       refine mv rfl rfl ?_
       refine nc rfl rfl ?_
       refine fa F131_2 rfl rfl ?_
       refine stM (off := 2) Tryz.sizeOf21 rfl (by rw [ho1]) rfl rfl rfl (.tail .head) ?_
       refine nl ?_
       refine sq ?_
       refine sr ?_
       refine asg rfl rfl ?_
       refine nl ?_
       refine sq ?_
       refine sr ?_
       refine mv rfl rfl ?_
       refine nl ?_
       refine cdT rfl (by omega) ?_
       refine rg ?_
       have ex1_3 : x1_3 = decV 9 (decP [] v true) false true x1_2.2 := (hx1_3.trans (step_yes (by decide) (show (0 : Int) ≤ v by omega) (Or.inl (by decide)))).trans (decF'_val (by decide) (rfl))
       refine cl rfl rfl rfl (d9t hR143 ex1_3) rfl (fun v_ H1 L1 le_12 hR_ => ?_)
       obtain ⟨N149, rfl, hR149, a1_3, c1_3, rfl, hf1_3⟩ := hR_
       refine asg rfl rfl ?_
       refine nl ?_
       refine rg ?_
       refine mv rfl rfl ?_
       refine mv rfl rfl ?_
       refine nc rfl rfl ?_
       refine fa F131_3 rfl rfl ?_
       refine stM (off := 3) Tryz.sizeOf24 rfl (by rw [ho1]) rfl rfl rfl (.tail .head) ?_
       refine nl ?_
       refine sq ?_
       refine sr ?_
       refine asg rfl rfl ?_
       refine nl ?_
       refine sq ?_
       refine sr ?_
       refine mv rfl rfl ?_
       refine nl ?_
       refine cdT rfl (by omega) ?_
       refine rg ?_
       have ex1_4 : x1_4 = decV 9 (decP [] v true) false true x1_3.2 := (hx1_4.trans (step_yes (by decide) (show (0 : Int) ≤ v by omega) (Or.inl (by decide)))).trans (decF'_val (by decide) (rfl))
       refine cl rfl rfl rfl (d9t hR149 ex1_4) rfl (fun v_ H1 L1 le_13 hR_ => ?_)
       obtain ⟨N156, rfl, hR156, a1_4, c1_4, rfl, hf1_4⟩ := hR_
       refine asg rfl rfl ?_
       refine nl ?_
       refine rg ?_
       refine mv rfl rfl ?_
       refine mv rfl rfl ?_
       refine nc rfl rfl ?_
       refine fa F131_4 rfl rfl ?_
       refine stM (off := 4) Tryz.sizeOf24 rfl (by rw [ho1]) rfl rfl rfl (.tail .head) ?_
       refine nl ?_
       refine sr ?_
       refine mv rfl rfl ?_
       refine nl ?_
       refine cdT rfl (by omega) ?_
       refine rg ?_
       refine mv rfl rfl ?_
       refine cl rfl rfl rfl (d_tags hR156) rfl (fun v_ H1 L1 le_14 hR_ => ?_)
       obtain ⟨N164, rfl, hR164, m1_t, rfl, hft1_⟩ := hR_
       have hu21_ : u1_ = rTags x1_4.2 := hu1_
       rw [← hu21_] at hR164 hft1_
       refine nc rfl rfl ?_
       refine fa F131_5 rfl rfl ?_
       refine saM (off := 5) Tryz.sizeOf75 rfl (by rw [ho1]) rfl rfl rfl rfl (.tail .head) ?_
       refine nN ?_
       refine Nb ?_
       refine Nt ?_
       refine rg ?_
       refine mv rfl rfl ?_
       refine ad rfl rfl (c := ((k1 + 1 : Nat) : Int)) ((wrap32_le (by omega) (by omega)).trans (by omega)) rfl ?_
       refine asg rfl rfl ?_
       refine nN ?_
       have hfs1 := flatMap_snoc' fk es1 ((⟨([.string ⟨x1_0.1.s.toArray⟩, .int .i8 (IntKind.i8.wrap x1_1.1.n), .int .i32 (IntKind.i32.wrap x1_2.1.n), .slice a1_3 (sT x1_3.1).length c1_3, .slice a1_4 (sT x1_4.1).length c1_4, .map m1_t] : List Value), rfl, all_one rfl⟩, ((decV 10 (decP fs_sAlterUserSCRAMCredentialsRequestUpsertion v true) false true) (rMany (decV 10 (decP fs_sAlterUserSCRAMCredentialsRequestUpsertion v true) false true) k1 (rArr true x0.2).2).2).1) : KE 6)
       have hrw1 := hbk1 ([.string ⟨x1_0.1.s.toArray⟩, .int .i8 (IntKind.i8.wrap x1_1.1.n), .int .i32 (IntKind.i32.wrap x1_2.1.n), .slice a1_3 (sT x1_3.1).length c1_3, .slice a1_4 (sT x1_4.1).length c1_4, .map m1_t] : List Value) rfl
       refine tfN (.tail .head) ?_
       refine fun a_ w_ hA hw => ⟨hkl1, _, _, _, hA.sub ?_, (le_8.trans (le_12.trans (le_13.trans le_14))), hw, _, _, _, rfl, rfl, (by rw [rMany_succ]; show RdAt _ 118 b_1 (decP fs_sAlterUserSCRAMCredentialsRequestUpsertion v true (rMany (decV 10 (decP fs_sAlterUserSCRAMCredentialsRequestUpsertion v true) false true) k1 (rArr true x0.2).2).2).2 _; rw [hD1_]; exact hR164), (by rw [← hfs1]; exact hrw1), (dec_els he_1), (fun p hp => (mem_snoc hp).elim (fun h => At_AlterUserSCRAMCredentialsRequestUpsertion.mono _ _ _ _ (le_12.trans (le_13.trans le_14)) (hg_1 p h)) (fun h => h ▸ (by show At_AlterUserSCRAMCredentialsRequestUpsertion _ (decP fs_sAlterUserSCRAMCredentialsRequestUpsertion v true (rMany (decV 10 (decP fs_sAlterUserSCRAMCredentialsRequestUpsertion v true) false true) k1 (rArr true x0.2).2).2).1 [.string ⟨x1_0.1.s.toArray⟩, .int .i8 (IntKind.i8.wrap x1_1.1.n), .int .i32 (IntKind.i32.wrap x1_2.1.n), .slice a1_3 (sT x1_3.1).length c1_3, .slice a1_4 (sT x1_4.1).length c1_4, .map m1_t]; rw [hD1_]; exact ⟨a1_3, c1_3, a1_4, c1_4, m1_t, rfl, (hf1_3.mono (le_13.trans le_14)), (hf1_4.mono le_14), hft1_⟩)))⟩
       exact (.of ⟨rfl, rfl, rfl, rfl, rfl, rfl, rfl, rfl, trivial⟩)
      ·
       have hkn_ : k1 = (lT x1.1).length := by omega
       subst hkn_
       have hw2_1 : Row 131 6 a1 (lT x1.1).length c1 (es1.flatMap fk) M1 := by have h := hw_1; rw [Nat.sub_self] at h; simpa [reps] using h
       refine frW hw2_1 .head (fun Hf1 hlf1 hfz1 => ?_)
       have hrs1 := RowsAt.row (R := At_AlterUserSCRAMCredentialsRequestUpsertion) hfz1 hs_1.symm hw2_1.le.1 (fun p hp => At_AlterUserSCRAMCredentialsRequestUpsertion.mono _ _ _ _ hlf1 (hg_1 p hp))
       rw [he_1] at hrs1
       have hf1 : ListAt Hf1 x1.1 6 At_AlterUserSCRAMCredentialsRequestUpsertion a1 c1 := by rw [ex1]; exact listAt_of hrs1 hi1 (fun h => by have h1 := nul_le h; rw [show (lT x1.1).length = 0 by omega]; rfl)
       have hRx1 : RdAt Hf1 118 b_1 x1.2 RN1 := by rw [ex1]; exact (hR_1.mono hlf1)
       refine exX ?_
       refine XT ?_
       refine XT ?_
       refine Xb ?_
       refine Nt ?_
       refine sr ?_
       refine mv rfl rfl ?_
       refine asg rfl rfl ?_
       refine nl ?_
       refine rg ?_
       refine mv rfl rfl ?_
       refine mv rfl rfl ?_
       refine nc rfl rfl ?_
       refine fa0 F77_2 rfl rfl ?_
       refine st Tryz.sizeOf72 rfl rfl rfl rfl (.tail .head) ?_
       refine nl ?_
       refine sq ?_
       refine sr ?_
       refine mv rfl rfl ?_
       refine nl ?_
       refine cdT rfl (by omega) ?_
       refine rg ?_
       refine mv rfl rfl ?_
       refine cl rfl rfl rfl (d_tags hRx1) rfl (fun v_ H1 L1 le_15 hR_ => ?_)
       obtain ⟨N174, rfl, hR174, mt, rfl, hft⟩ := hR_
       have hu2 : u = rTags x1.2 := hu
       rw [← hu2] at hR174 hft
       refine nc rfl rfl ?_
       refine fa0 F77_3 rfl rfl ?_
       refine sa Tryz.sizeOf75 rfl rfl rfl rfl rfl (.tail .head) ?_
       refine nl ?_
       refine sr ?_
       refine cl rfl rfl rfl (r_complete hR174 (he.mono (le_2.trans (le_3.trans (hlf0.trans (le_7.trans (le_8.trans (hlf1.trans le_15)))))))) rfl (fun v_ H1 L1 hle_ hR_ => ?_)
       obtain ⟨rfl, rfl, rfl⟩ := hR_
       refine asg rfl rfl ?_
       refine nl ?_
       refine drW .head ?_
       have hA_ := (show At_AlterUserSCRAMCredentialsRequest v _ (decP fs_AlterUserSCRAMCredentialsRequest v true _).1 [.int .i16 v, .slice a0 (lT x0.1).length c0, .slice a1 (lT x1.1).length c1, .map mt] from (by rw [hD]; exact ⟨a0, c0, a1, c1, mt, rfl, (hf0.mono At_AlterUserSCRAMCredentialsRequestDeletion.mono (le_7.trans (le_8.trans (hlf1.trans le_15)))), (hf1.mono At_AlterUserSCRAMCredentialsRequestUpsertion.mono le_15), hft⟩))
       refine rT rfl rfl (le_2.trans (le_3.trans (hlf0.trans (le_7.trans (le_8.trans (hlf1.trans le_15)))))) (fun _ _ h => h) ⟨_, rfl, ?_⟩
       have hz := RdEnd.of (e := e) hA_
       rw [show (decP fs_AlterUserSCRAMCredentialsRequest v true _).2.bad = u.2.bad by rw [hD]] at hz
       exact hz
end Go.Sx
