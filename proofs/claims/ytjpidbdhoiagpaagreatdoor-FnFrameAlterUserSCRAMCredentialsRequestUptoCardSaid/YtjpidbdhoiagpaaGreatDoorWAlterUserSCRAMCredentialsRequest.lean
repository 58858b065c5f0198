import Derived.Test.YtjpidbdhoiagpaaGreatDoorBAlterUserSCRAMCredentialsRequest
import Derived.Test.YtjpidbdhoiagpaaGreatDoorKB2
import Derived.Test.YtjpidbdhoiagpaaGreatDoorMkL
import Derived.KernelRfl
set_option linter.unusedVariables false
set_option linter.unusedSimpArgs false
set_option maxRecDepth 100000
set_option maxHeartbeats 20000000
namespace Go.Sx
open Go.Proofs
theorem app_AlterUserSCRAMCredentialsRequest_t {H : Fz} {L : Own} {a : Option Addr} {cap b : Nat} {D : List UInt8} {N : Chunk} {cs : List Value} {T : Tr} {v : Int} (hr : Row 5 1 a D.length cap (bytesOf D) N) (hv : H.at b 0 cs) (hA : At_AlterUserSCRAMCredentialsRequest v H T cs) (hok : OkP fs_AlterUserSCRAMCredentialsRequest v T) (h0 : 0 ≤ v) (h1 : v ≤ 0) (hb : D.length + (partB fs_AlterUserSCRAMCredentialsRequest v true T).length ≤ LIM) :
  Fn Tryz.prog 149 [.pointer (some ⟨b, 0, none⟩), .slice a D.length cap] H (N :: L) (fun r H' L' => OutB 5 L (D ++ partB fs_AlterUserSCRAMCredentialsRequest v true T) r L') := by
 obtain ⟨a0, c0, a1, c1, mt, rfl, hf0, hf1, hf2⟩ := hA
 refine Fn.mk Tryz.call149 Tryz.func149 rfl Tryz.ntmps149 rfl ?_
 refine sr ?_
 refine asg rfl rfl ?_
 refine nl ?_
 refine sr ?_
 refine mv rfl rfl ?_
 refine nc rfl rfl ?_
 refine fa0 F77_0 rfl rfl ?_
 refine ld (Says.fz hv) Tryz.isAgg45 rfl (Nat.zero_add _).symm rfl rfl ?_
 refine asg rfl rfl ?_
 refine nl ?_
 refine sr ?_
 refine mv rfl rfl ?_
 refine nl ?_
 refine sr ?_
 refine mv rfl rfl ?_
 refine ge rfl rfl rfl ?_
 refine asg rfl rfl ?_
 refine nl ?_
 refine sr ?_
 refine mv rfl rfl ?_
 refine nl ?_
 refine sq ?_
 refine sr ?_
 refine mv rfl rfl ?_
 refine nc rfl rfl ?_
 refine fa0 F77_1 rfl rfl ?_
 refine ld (Says.fz hv) Tryz.isAgg71 rfl (Nat.zero_add _).symm rfl rfl ?_
 refine asg rfl rfl ?_
 refine nl ?_
 refine sq ?_
 refine sr ?_
 refine mv rfl rfl ?_
 refine nl ?_
 refine cdT rfl (by omega) ?_
 refine rg ?_
 refine mv rfl rfl ?_
 refine mv rfl rfl ?_
 refine ls Tryz.runUnderlying71 rfl rfl ?_
 have ok36 := hok.get 0 (by decide) (has_yes (show (0 : Int) ≤ v by omega) (show ((-1) : Int) < 0 ∨ v ≤ (-1) by omega))
 have ll36 := lT_len (ok36.len rfl)
 have e_1 : D ++ (counted true false (lT (T.at 0)).length 4 ++ (lT (T.at 0)).flatMap (GOf (fs_AlterUserSCRAMCredentialsRequest[0]'(by decide)) v true)) = D ++ plainTo (zipped fs_AlterUserSCRAMCredentialsRequest v true T) v 1 := fold_first (fs := fs_AlterUserSCRAMCredentialsRequest) (v := v) (flex := true) (t := T) (B := D) 0 rfl (by decide) (by decide) (has_yes (show (0 : Int) ≤ v by omega) (show ((-1) : Int) < 0 ∨ v ≤ (-1) by omega)) (FB_list0 (f := (fs_AlterUserSCRAMCredentialsRequest[0]'(by decide))) (by decide) (by decide) (by decide) ok36)
 have hs36 := fold_size e_1 (by decide) hb
 have hc36 : (D).length + (counted true false (lT (T.at 0)).length 4).length ≤ LIM := by have h := hs36; simp only [List.length_append] at h ⊢; omega
 refine cl rfl rfl rfl (OutK.cast (k_AppendCompactArrayLen (n := (lT (T.at 0)).length) (by omega) hr hc36) (show _ = D ++ (counted true false (lT (T.at 0)).length 4) from rfl)) rfl (fun v_ H1 L1 hle hR => ?_)
 obtain ⟨rfl, a36, c36, N36, rfl, rfl, h36⟩ := hR
 have r36 := h36.1
 refine asg rfl rfl ?_
 refine nl ?_
 refine sr ?_
 refine mv rfl rfl ?_
 refine ls Tryz.runUnderlying71 rfl rfl ?_
 refine mv rfl rfl ?_
 refine nl ?_
 refine fr ((lT (T.at 0)).length) (fun k1 l' H' L' => ∃ (a_k1 : Option Addr), ∃ (m_k1 : Nat), ∃ (c_k1 : Nat), ∃ (N_k1 : Chunk), [(0, .pointer (some ⟨b, 0, none⟩)), (1, .slice a_k1 m_k1 c_k1), (6, .bool (decide ((0 : Int) ≤ v))), (7, .slice a0 (lT (T.at 0)).length c0), (42, .int .i64 ((lT (T.at 0)).length : Int))] = l' ∧ N_k1 :: L = L' ∧ Row 5 1 a_k1 m_k1 c_k1 (bytesOf (D ++ (counted true false (lT (T.at 0)).length 4) ++ ((lT (T.at 0)).take k1).flatMap (GOf (fs_AlterUserSCRAMCredentialsRequest[0]'(by decide)) v true))) N_k1 ∧ m_k1 = (D ++ (counted true false (lT (T.at 0)).length 4) ++ ((lT (T.at 0)).take k1).flatMap (GOf (fs_AlterUserSCRAMCredentialsRequest[0]'(by decide)) v true)).length) [(0, .pointer (some ⟨b, 0, none⟩)), (1, .slice _ _ _), (6, .bool (decide ((0 : Int) ≤ v))), (7, .slice a0 (lT (T.at 0)).length c0), (42, .int .i64 ((lT (T.at 0)).length : Int))] (fun k1 l' H' L' h => ?_) (by omega) rfl (.of ⟨rfl, rfl, rfl, rfl, rfl, trivial⟩) ⟨_, _, _, _, rfl, rfl, (by rw [List.take_zero, List.flatMap_nil, List.append_nil]; exact r36), (by rw [List.take_zero, List.flatMap_nil, List.append_nil])⟩ rfl rfl rfl rfl rfl (fun k1 l' H' L' hk1 le_2 hI => ?_) (fun l' H' L' le_3 hI => ?_)
 · obtain ⟨a_k1, m_k1, c_k1, N_k1, rfl, _⟩ := h; exact ⟨rfl, rfl, rfl, rfl⟩
 ·
  obtain ⟨a_k1, m_k1, c_k1, N_k1, rfl, rfl, pk10, pk11⟩ := hI
  subst pk11
  refine sr ?_
  refine mv rfl rfl ?_
  refine asg rfl rfl ?_
  refine nl ?_
  refine sr ?_
  refine mv rfl rfl ?_
  refine mv rfl rfl ?_
  obtain ⟨b_4, o_5, e_6, g_7⟩ := (hf0.mono At_AlterUserSCRAMCredentialsRequestDeletion.mono le_2).rows.at_ (ne_nil_of_lt hk1)
  obtain ⟨cs_8, hA_9, hc_10⟩ := g_7 k1 hk1
  refine ix2 Tryz.runUnderlying71 Tryz.sizeOf124 rfl e_6 rfl rfl hk1 rfl ?_
  obtain ⟨m_k1_t, rfl, hf_k1_0⟩ := hA_9
  have oek1 := (ok36.el rfl _ (lT_mem (List.getElem_mem hk1))).2 rfl
  obtain ⟨B_k1, hdk1⟩ : ∃ z : List UInt8, z = D ++ (counted true false (lT (T.at 0)).length 4) ++ ((lT (T.at 0)).take k1).flatMap (GOf (fs_AlterUserSCRAMCredentialsRequest[0]'(by decide)) v true) := ⟨_, rfl⟩
  have rbk1 := pk10
  rw [← hdk1] at rbk1 ⊢
  have hBk1 : B_k1.length + (partB fs_sAlterUserSCRAMCredentialsRequestDeletion v true ((lT (T.at 0))[k1])).length ≤ LIM := by rw [hdk1]; exact el_size hs36 hk1 (GOf_part (by decide) _)
  refine asg rfl rfl ?_
  refine nl ?_
  refine sq ?_
  refine sr ?_
  refine mv rfl rfl ?_
  refine nc rfl rfl ?_
  refine fa F124_0 rfl rfl ?_
  refine ld (Says.fz hc_10) Tryz.isAgg9 rfl (Nat.add_zero _).symm rfl rfl ?_
  refine asg rfl rfl ?_
  refine nl ?_
  refine sr ?_
  refine mv rfl rfl ?_
  refine nl ?_
  refine cdT rfl (by omega) ?_
  refine rg ?_
  refine mv rfl rfl ?_
  refine mv rfl rfl ?_
  have ok56 := oek1.get 0 (by decide) (has_yes (show (0 : Int) ≤ v by omega) (show ((-1) : Int) < 0 ∨ v ≤ (-1) by omega))
  have nn56 := ok56.nn (by decide) (by decide) (by decide)
  have e_11 : B_k1 ++ (counted true false (((lT (T.at 0))[k1]).at 0).s.length 2 ++ (((lT (T.at 0))[k1]).at 0).s) = B_k1 ++ plainTo (zipped fs_sAlterUserSCRAMCredentialsRequestDeletion v true ((lT (T.at 0))[k1])) v 1 := fold_first (fs := fs_sAlterUserSCRAMCredentialsRequestDeletion) (v := v) (flex := true) (t := ((lT (T.at 0))[k1])) (B := B_k1) 0 rfl (by decide) (by decide) (has_yes (show (0 : Int) ≤ v by omega) (show ((-1) : Int) < 0 ∨ v ≤ (-1) by omega)) (by rw [FB_text (f := (fs_sAlterUserSCRAMCredentialsRequestDeletion[0]'(by decide))) (by decide) (by decide) ok56, sT_nn nn56, nn56])
  have hs56 := fold_size e_11 (by decide) hBk1
  refine cl rfl rfl rfl (OutK.cast (k_AppendCompactString (x := (((lT (T.at 0))[k1]).at 0).s) (by have := ok56.s (Or.inl rfl); omega) rbk1 hs56) e_11) rfl (fun v_ H1 L1 hle hR => ?_)
  obtain ⟨rfl, a56, c56, N56, rfl, rfl, h56⟩ := hR
  have r56 := h56.1
  refine asg rfl rfl ?_
  refine nl ?_
  refine sq ?_
  refine sr ?_
  refine mv rfl rfl ?_
  refine nc rfl rfl ?_
  refine fa F124_1 rfl rfl ?_
  refine ld (Says.fz hc_10) Tryz.isAgg105 rfl rfl rfl rfl ?_
  refine asg rfl rfl ?_
  refine nl ?_
  refine rg ?_
  refine mv rfl rfl ?_
  refine mv rfl rfl ?_
  have ok66 := oek1.get 1 (by decide) (has_yes (show (0 : Int) ≤ v by omega) (show ((-1) : Int) < 0 ∨ v ≤ (-1) by omega))
  have e_12 : B_k1 ++ plainTo (zipped fs_sAlterUserSCRAMCredentialsRequestDeletion v true ((lT (T.at 0))[k1])) v 1 ++ (fixed (IntKind.i8.wrap (((lT (T.at 0))[k1]).at 1).n) 1) = B_k1 ++ plainTo (zipped fs_sAlterUserSCRAMCredentialsRequestDeletion v true ((lT (T.at 0))[k1])) v 2 := fold_yes (fs := fs_sAlterUserSCRAMCredentialsRequestDeletion) (v := v) (flex := true) (t := ((lT (T.at 0))[k1])) (B := B_k1) 1 (by decide) (by decide) (has_yes (show (0 : Int) ≤ v by omega) (show ((-1) : Int) < 0 ∨ v ≤ (-1) by omega)) ((FB_int (f := (fs_sAlterUserSCRAMCredentialsRequestDeletion[1]'(by decide))) (by decide) (by decide)).trans (fixed_i8 _).symm)
  have hs66 := fold_size e_12 (by decide) hBk1
  refine cl rfl rfl rfl (OutK.cast (k_AppendInt8 (u := IntKind.i8.wrap (((lT (T.at 0))[k1]).at 1).n) r56 hs66) e_12) rfl (fun v_ H1 L1 hle hR => ?_)
  obtain ⟨rfl, a66, c66, N66, rfl, rfl, h66⟩ := hR
  have r66 := h66.1
  refine asg rfl rfl ?_
  refine nl ?_
  refine sr ?_
  refine mv rfl rfl ?_
  refine nl ?_
  refine cdT rfl (by omega) ?_
  refine sr ?_
  refine mv rfl rfl ?_
  refine mv rfl rfl ?_
  refine nc rfl rfl ?_
  refine fa F124_2 rfl rfl ?_
  refine cl rfl rfl rfl (t_lenU (j := 2) hc_10 rfl hf_k1_0) rfl (fun v_ H1 L1 hle hR => ?_)
  obtain ⟨rfl, rfl, rfl⟩ := hR
  have hu72 := oek1.u
  have hul72 := hu72.2.1
  obtain ⟨hz72a, hz72b⟩ := part_size_plain (by decide) hu72 hBk1
  refine cv Tryz.runUnderlying3 Tryz.runUnderlying67 rfl (w32u (by omega) (by omega)) rfl ?_
  refine ad rfl rfl ((w32u (by omega) (by omega)).trans (Int.zero_add _)) rfl ?_
  refine cl rfl rfl rfl (k_AppendUvarint (n := ((lT (T.at 0))[k1]).u.length) (by omega) r66 hz72a) rfl (fun v_ H1 L1 hle hR => ?_)
  obtain ⟨rfl, a75, c75, N75, rfl, rfl, h75⟩ := hR
  have r75 := h75.1
  refine asg rfl rfl ?_
  refine nl ?_
  refine rg ?_
  refine mv rfl rfl ?_
  refine nc rfl rfl ?_
  refine fa F124_2 rfl rfl ?_
  refine mv rfl rfl ?_
  refine cl rfl rfl rfl (t_append_each (j := 2) hc_10 rfl hf_k1_0 (by omega) r75 (fun p hp => by have := hu72.2.2 p hp; omega) hz72b) rfl (fun v_ H1 L1 le_13 hR => ?_)
  obtain ⟨a80, c80, N80, rfl, rfl, h80⟩ := hR
  have r80 := h80.1
  have eP_14 : B_k1 ++ plainTo (zipped fs_sAlterUserSCRAMCredentialsRequestDeletion v true ((lT (T.at 0))[k1])) v 2 ++ uvar ((lT (T.at 0))[k1]).u.length ++ ((lT (T.at 0))[k1]).u.flatMap tagU = B_k1 ++ partB fs_sAlterUserSCRAMCredentialsRequestDeletion v true ((lT (T.at 0))[k1]) := part_close (B := B_k1) (by decide) hu72
  rw [eP_14] at r80 ⊢
  refine asg rfl rfl ?_
  refine nN ?_
  refine Nb ?_
  have ee_15 : B_k1 ++ partB fs_sAlterUserSCRAMCredentialsRequestDeletion v true ((lT (T.at 0))[k1]) = D ++ (counted true false (lT (T.at 0)).length 4) ++ ((lT (T.at 0)).take (k1 + 1)).flatMap (GOf (fs_AlterUserSCRAMCredentialsRequest[0]'(by decide)) v true) := by rw [hdk1]; exact el_end (B0 := D ++ (counted true false (lT (T.at 0)).length 4)) (G := (GOf (fs_AlterUserSCRAMCredentialsRequest[0]'(by decide)) v true)) hk1 (GOf_part (by decide) _)
  refine fun a_ w_ hA hw => ⟨_, _, _, hA.sub ?_, (le_2.trans le_13), hw, _, rfl, _, _, _, _, rfl, rfl, (by rw [← ee_15]; exact r80), (by rw [← ee_15])⟩
  exact (.of ⟨rfl, rfl, rfl, rfl, rfl, rfl, trivial⟩)
 ·
  obtain ⟨a_k1, m_k1, c_k1, N_k1, rfl, rfl, pk10, pk11⟩ := hI
  refine toWp ?_
  have eL36 : D ++ (counted true false (lT (T.at 0)).length 4) ++ ((lT (T.at 0)).take (lT (T.at 0)).length).flatMap (GOf (fs_AlterUserSCRAMCredentialsRequest[0]'(by decide)) v true) = D ++ plainTo (zipped fs_AlterUserSCRAMCredentialsRequest v true T) v 1 := by rw [List.take_length, List.append_assoc]; exact e_1
  rw [eL36] at pk10 pk11
  subst pk11
  refine sq ?_
  refine sr ?_
  refine mv rfl rfl ?_
  refine nc rfl rfl ?_
  refine fa0 F77_2 rfl rfl ?_
  refine ld (Says.fz (hv.mono le_3)) Tryz.isAgg72 rfl (Nat.zero_add _).symm rfl rfl ?_
  refine asg rfl rfl ?_
  refine nl ?_
  refine sq ?_
  refine sr ?_
  refine mv rfl rfl ?_
  refine nl ?_
  refine cdT rfl (by omega) ?_
  refine rg ?_
  refine mv rfl rfl ?_
  refine mv rfl rfl ?_
  refine ls Tryz.runUnderlying72 rfl rfl ?_
  have ok90 := hok.get 1 (by decide) (has_yes (show (0 : Int) ≤ v by omega) (show ((-1) : Int) < 0 ∨ v ≤ (-1) by omega))
  have ll90 := lT_len (ok90.len rfl)
  have e_16 : D ++ plainTo (zipped fs_AlterUserSCRAMCredentialsRequest v true T) v 1 ++ (counted true false (lT (T.at 1)).length 4 ++ (lT (T.at 1)).flatMap (GOf (fs_AlterUserSCRAMCredentialsRequest[1]'(by decide)) v true)) = D ++ plainTo (zipped fs_AlterUserSCRAMCredentialsRequest v true T) v 2 := fold_yes (fs := fs_AlterUserSCRAMCredentialsRequest) (v := v) (flex := true) (t := T) (B := D) 1 (by decide) (by decide) (has_yes (show (0 : Int) ≤ v by omega) (show ((-1) : Int) < 0 ∨ v ≤ (-1) by omega)) (FB_list0 (f := (fs_AlterUserSCRAMCredentialsRequest[1]'(by decide))) (by decide) (by decide) (by decide) ok90)
  have hs90 := fold_size e_16 (by decide) hb
  have hc90 : (D ++ plainTo (zipped fs_AlterUserSCRAMCredentialsRequest v true T) v 1).length + (counted true false (lT (T.at 1)).length 4).length ≤ LIM := by have h := hs90; simp only [List.length_append] at h ⊢; omega
  refine cl rfl rfl rfl (OutK.cast (k_AppendCompactArrayLen (n := (lT (T.at 1)).length) (by omega) pk10 hc90) (show _ = D ++ plainTo (zipped fs_AlterUserSCRAMCredentialsRequest v true T) v 1 ++ (counted true false (lT (T.at 1)).length 4) from rfl)) rfl (fun v_ H1 L1 hle hR => ?_)
  obtain ⟨rfl, a90, c90, N90, rfl, rfl, h90⟩ := hR
  have r90 := h90.1
  refine asg rfl rfl ?_
  refine nl ?_
  refine sr ?_
  refine mv rfl rfl ?_
  refine ls Tryz.runUnderlying72 rfl rfl ?_
  refine mv rfl rfl ?_
  refine nl ?_
  refine fr ((lT (T.at 1)).length) (fun k2 l' H' L' => ∃ (a_k2 : Option Addr), ∃ (m_k2 : Nat), ∃ (c_k2 : Nat), ∃ (N_k2 : Chunk), [(0, .pointer (some ⟨b, 0, none⟩)), (1, .slice a_k2 m_k2 c_k2), (6, .bool (decide ((0 : Int) ≤ v))), (12, .slice a1 (lT (T.at 1)).length c1), (96, .int .i64 ((lT (T.at 1)).length : Int))] = l' ∧ N_k2 :: L = L' ∧ Row 5 1 a_k2 m_k2 c_k2 (bytesOf (D ++ plainTo (zipped fs_AlterUserSCRAMCredentialsRequest v true T) v 1 ++ (counted true false (lT (T.at 1)).length 4) ++ ((lT (T.at 1)).take k2).flatMap (GOf (fs_AlterUserSCRAMCredentialsRequest[1]'(by decide)) v true))) N_k2 ∧ m_k2 = (D ++ plainTo (zipped fs_AlterUserSCRAMCredentialsRequest v true T) v 1 ++ (counted true false (lT (T.at 1)).length 4) ++ ((lT (T.at 1)).take k2).flatMap (GOf (fs_AlterUserSCRAMCredentialsRequest[1]'(by decide)) v true)).length) [(0, .pointer (some ⟨b, 0, none⟩)), (1, .slice _ _ _), (6, .bool (decide ((0 : Int) ≤ v))), (12, .slice a1 (lT (T.at 1)).length c1), (96, .int .i64 ((lT (T.at 1)).length : Int))] (fun k2 l' H' L' h => ?_) (by omega) rfl (.of ⟨rfl, rfl, rfl, rfl, rfl, trivial⟩) ⟨_, _, _, _, rfl, rfl, (by rw [List.take_zero, List.flatMap_nil, List.append_nil]; exact r90), (by rw [List.take_zero, List.flatMap_nil, List.append_nil])⟩ rfl rfl rfl rfl rfl (fun k2 l' H' L' hk2 le_17 hI => ?_) (fun l' H' L' le_18 hI => ?_)
  · obtain ⟨a_k2, m_k2, c_k2, N_k2, rfl, _⟩ := h; exact ⟨rfl, rfl, rfl, rfl⟩
  ·
   obtain ⟨a_k2, m_k2, c_k2, N_k2, rfl, rfl, pk20, pk21⟩ := hI
   subst pk21
   refine sr ?_
   refine mv rfl rfl ?_
   refine asg rfl rfl ?_
   refine nl ?_
   refine sr ?_
   refine mv rfl rfl ?_
   refine mv rfl rfl ?_
   obtain ⟨b_19, o_20, e_21, g_22⟩ := (hf1.mono At_AlterUserSCRAMCredentialsRequestUpsertion.mono (le_3.trans le_17)).rows.at_ (ne_nil_of_lt hk2)
   obtain ⟨cs_23, hA_24, hc_25⟩ := g_22 k2 hk2
   refine ix2 Tryz.runUnderlying72 Tryz.sizeOf131 rfl e_21 rfl rfl hk2 rfl ?_
   obtain ⟨a_k2_3, c_k2_3, a_k2_4, c_k2_4, m_k2_t, rfl, hf_k2_0, hf_k2_1, hf_k2_2⟩ := hA_24
   have oek2 := (ok90.el rfl _ (lT_mem (List.getElem_mem hk2))).2 rfl
   obtain ⟨B_k2, hdk2⟩ : ∃ z : List UInt8, z = D ++ plainTo (zipped fs_AlterUserSCRAMCredentialsRequest v true T) v 1 ++ (counted true false (lT (T.at 1)).length 4) ++ ((lT (T.at 1)).take k2).flatMap (GOf (fs_AlterUserSCRAMCredentialsRequest[1]'(by decide)) v true) := ⟨_, rfl⟩
   have rbk2 := pk20
   rw [← hdk2] at rbk2 ⊢
   have hBk2 : B_k2.length + (partB fs_sAlterUserSCRAMCredentialsRequestUpsertion v true ((lT (T.at 1))[k2])).length ≤ LIM := by rw [hdk2]; exact el_size hs90 hk2 (GOf_part (by decide) _)
   refine asg rfl rfl ?_
   refine nl ?_
   refine sq ?_
   refine sr ?_
   refine mv rfl rfl ?_
   refine nc rfl rfl ?_
   refine fa F131_0 rfl rfl ?_
   refine ld (Says.fz hc_25) Tryz.isAgg9 rfl (Nat.add_zero _).symm rfl rfl ?_
   refine asg rfl rfl ?_
   refine nl ?_
   refine sr ?_
   refine mv rfl rfl ?_
   refine nl ?_
   refine cdT rfl (by omega) ?_
   refine rg ?_
   refine mv rfl rfl ?_
   refine mv rfl rfl ?_
   have ok110 := oek2.get 0 (by decide) (has_yes (show (0 : Int) ≤ v by omega) (show ((-1) : Int) < 0 ∨ v ≤ (-1) by omega))
   have nn110 := ok110.nn (by decide) (by decide) (by decide)
   have e_26 : B_k2 ++ (counted true false (((lT (T.at 1))[k2]).at 0).s.length 2 ++ (((lT (T.at 1))[k2]).at 0).s) = B_k2 ++ plainTo (zipped fs_sAlterUserSCRAMCredentialsRequestUpsertion v true ((lT (T.at 1))[k2])) v 1 := fold_first (fs := fs_sAlterUserSCRAMCredentialsRequestUpsertion) (v := v) (flex := true) (t := ((lT (T.at 1))[k2])) (B := B_k2) 0 rfl (by decide) (by decide) (has_yes (show (0 : Int) ≤ v by omega) (show ((-1) : Int) < 0 ∨ v ≤ (-1) by omega)) (by rw [FB_text (f := (fs_sAlterUserSCRAMCredentialsRequestUpsertion[0]'(by decide))) (by decide) (by decide) ok110, sT_nn nn110, nn110])
   have hs110 := fold_size e_26 (by decide) hBk2
   refine cl rfl rfl rfl (OutK.cast (k_AppendCompactString (x := (((lT (T.at 1))[k2]).at 0).s) (by have := ok110.s (Or.inl rfl); omega) rbk2 hs110) e_26) rfl (fun v_ H1 L1 hle hR => ?_)
   obtain ⟨rfl, a110, c110, N110, rfl, rfl, h110⟩ := hR
   have r110 := h110.1
   refine asg rfl rfl ?_
   refine nl ?_
   refine sq ?_
   refine sr ?_
   refine mv rfl rfl ?_
   refine nc rfl rfl ?_
   refine fa F131_1 rfl rfl ?_
   refine ld (Says.fz hc_25) Tryz.isAgg105 rfl rfl rfl rfl ?_
   refine asg rfl rfl ?_
   refine nl ?_
   refine rg ?_
   refine mv rfl rfl ?_
   refine mv rfl rfl ?_
   have ok120 := oek2.get 1 (by decide) (has_yes (show (0 : Int) ≤ v by omega) (show ((-1) : Int) < 0 ∨ v ≤ (-1) by omega))
   have e_27 : B_k2 ++ plainTo (zipped fs_sAlterUserSCRAMCredentialsRequestUpsertion v true ((lT (T.at 1))[k2])) v 1 ++ (fixed (IntKind.i8.wrap (((lT (T.at 1))[k2]).at 1).n) 1) = B_k2 ++ plainTo (zipped fs_sAlterUserSCRAMCredentialsRequestUpsertion v true ((lT (T.at 1))[k2])) v 2 := fold_yes (fs := fs_sAlterUserSCRAMCredentialsRequestUpsertion) (v := v) (flex := true) (t := ((lT (T.at 1))[k2])) (B := B_k2) 1 (by decide) (by decide) (has_yes (show (0 : Int) ≤ v by omega) (show ((-1) : Int) < 0 ∨ v ≤ (-1) by omega)) ((FB_int (f := (fs_sAlterUserSCRAMCredentialsRequestUpsertion[1]'(by decide))) (by decide) (by decide)).trans (fixed_i8 _).symm)
   have hs120 := fold_size e_27 (by decide) hBk2
   refine cl rfl rfl rfl (OutK.cast (k_AppendInt8 (u := IntKind.i8.wrap (((lT (T.at 1))[k2]).at 1).n) r110 hs120) e_27) rfl (fun v_ H1 L1 hle hR => ?_)
   obtain ⟨rfl, a120, c120, N120, rfl, rfl, h120⟩ := hR
   have r120 := h120.1
   refine asg rfl rfl ?_
   refine nl ?_
   refine sq ?_
   refine sr ?_
   refine mv rfl rfl ?_
   refine nc rfl rfl ?_
   refine fa F131_2 rfl rfl ?_
   refine ld (Says.fz hc_25) Tryz.isAgg21 rfl rfl rfl rfl ?_
   refine asg rfl rfl ?_
   refine nl ?_
   refine rg ?_
   refine mv rfl rfl ?_
   refine mv rfl rfl ?_
   have ok127 := oek2.get 2 (by decide) (has_yes (show (0 : Int) ≤ v by omega) (show ((-1) : Int) < 0 ∨ v ≤ (-1) by omega))
   have e_28 : B_k2 ++ plainTo (zipped fs_sAlterUserSCRAMCredentialsRequestUpsertion v true ((lT (T.at 1))[k2])) v 2 ++ (fixed (IntKind.i32.wrap (((lT (T.at 1))[k2]).at 2).n) 4) = B_k2 ++ plainTo (zipped fs_sAlterUserSCRAMCredentialsRequestUpsertion v true ((lT (T.at 1))[k2])) v 3 := fold_yes (fs := fs_sAlterUserSCRAMCredentialsRequestUpsertion) (v := v) (flex := true) (t := ((lT (T.at 1))[k2])) (B := B_k2) 2 (by decide) (by decide) (has_yes (show (0 : Int) ≤ v by omega) (show ((-1) : Int) < 0 ∨ v ≤ (-1) by omega)) ((FB_int (f := (fs_sAlterUserSCRAMCredentialsRequestUpsertion[2]'(by decide))) (by decide) (by decide)).trans (fixed_i32 _).symm)
   have hs127 := fold_size e_28 (by decide) hBk2
   refine cl rfl rfl rfl (OutK.cast (k_AppendInt32 (u := IntKind.i32.wrap (((lT (T.at 1))[k2]).at 2).n) r120 hs127) e_28) rfl (fun v_ H1 L1 hle hR => ?_)
   obtain ⟨rfl, a127, c127, N127, rfl, rfl, h127⟩ := hR
   have r127 := h127.1
   refine asg rfl rfl ?_
   refine nl ?_
   refine sq ?_
   refine sr ?_
   refine mv rfl rfl ?_
   refine nc rfl rfl ?_
   refine fa F131_3 rfl rfl ?_
   refine ld (Says.fz hc_25) Tryz.isAgg24 rfl rfl rfl rfl ?_
   refine asg rfl rfl ?_
   refine nl ?_
   refine sr ?_
   refine mv rfl rfl ?_
   refine nl ?_
   refine cdT rfl (by omega) ?_
   refine rg ?_
   refine mv rfl rfl ?_
   refine mv rfl rfl ?_
   have ok135 := oek2.get 3 (by decide) (has_yes (show (0 : Int) ≤ v by omega) (show ((-1) : Int) < 0 ∨ v ≤ (-1) by omega))
   have nn135 := ok135.nn (by decide) (by decide) (by decide)
   have e_29 : B_k2 ++ plainTo (zipped fs_sAlterUserSCRAMCredentialsRequestUpsertion v true ((lT (T.at 1))[k2])) v 3 ++ (counted true false (sT (((lT (T.at 1))[k2]).at 3)).length 4 ++ (sT (((lT (T.at 1))[k2]).at 3))) = B_k2 ++ plainTo (zipped fs_sAlterUserSCRAMCredentialsRequestUpsertion v true ((lT (T.at 1))[k2])) v 4 := fold_yes (fs := fs_sAlterUserSCRAMCredentialsRequestUpsertion) (v := v) (flex := true) (t := ((lT (T.at 1))[k2])) (B := B_k2) 3 (by decide) (by decide) (has_yes (show (0 : Int) ≤ v by omega) (show ((-1) : Int) < 0 ∨ v ≤ (-1) by omega)) (by rw [FB_bytes (f := (fs_sAlterUserSCRAMCredentialsRequestUpsertion[3]'(by decide))) (by decide) (by decide) ok135, nn135])
   have hs135 := fold_size e_29 (by decide) hBk2
   refine cl rfl rfl rfl (OutK.cast (k_AppendCompactBytes (x := (sT (((lT (T.at 1))[k2]).at 3))) (by have := sT_len (ok135.s (Or.inr rfl)); omega) hf_k2_0.val r127 hs135) e_29) rfl (fun v_ H1 L1 hle hR => ?_)
   obtain ⟨rfl, a135, c135, N135, rfl, rfl, h135⟩ := hR
   have r135 := h135.1
   refine asg rfl rfl ?_
   refine nl ?_
   refine sq ?_
   refine sr ?_
   refine mv rfl rfl ?_
   refine nc rfl rfl ?_
   refine fa F131_4 rfl rfl ?_
   refine ld (Says.fz hc_25) Tryz.isAgg24 rfl rfl rfl rfl ?_
   refine asg rfl rfl ?_
   refine nl ?_
   refine sr ?_
   refine mv rfl rfl ?_
   refine nl ?_
   refine cdT rfl (by omega) ?_
   refine rg ?_
   refine mv rfl rfl ?_
   refine mv rfl rfl ?_
   have ok146 := oek2.get 4 (by decide) (has_yes (show (0 : Int) ≤ v by omega) (show ((-1) : Int) < 0 ∨ v ≤ (-1) by omega))
   have nn146 := ok146.nn (by decide) (by decide) (by decide)
   have e_30 : B_k2 ++ plainTo (zipped fs_sAlterUserSCRAMCredentialsRequestUpsertion v true ((lT (T.at 1))[k2])) v 4 ++ (counted true false (sT (((lT (T.at 1))[k2]).at 4)).length 4 ++ (sT (((lT (T.at 1))[k2]).at 4))) = B_k2 ++ plainTo (zipped fs_sAlterUserSCRAMCredentialsRequestUpsertion v true ((lT (T.at 1))[k2])) v 5 := fold_yes (fs := fs_sAlterUserSCRAMCredentialsRequestUpsertion) (v := v) (flex := true) (t := ((lT (T.at 1))[k2])) (B := B_k2) 4 (by decide) (by decide) (has_yes (show (0 : Int) ≤ v by omega) (show ((-1) : Int) < 0 ∨ v ≤ (-1) by omega)) (by rw [FB_bytes (f := (fs_sAlterUserSCRAMCredentialsRequestUpsertion[4]'(by decide))) (by decide) (by decide) ok146, nn146])
   have hs146 := fold_size e_30 (by decide) hBk2
   refine cl rfl rfl rfl (OutK.cast (k_AppendCompactBytes (x := (sT (((lT (T.at 1))[k2]).at 4))) (by have := sT_len (ok146.s (Or.inr rfl)); omega) hf_k2_1.val r135 hs146) e_30) rfl (fun v_ H1 L1 hle hR => ?_)
   obtain ⟨rfl, a146, c146, N146, rfl, rfl, h146⟩ := hR
   have r146 := h146.1
   refine asg rfl rfl ?_
   refine nl ?_
   refine sr ?_
   refine mv rfl rfl ?_
   refine nl ?_
   refine cdT rfl (by omega) ?_
   refine sr ?_
   refine mv rfl rfl ?_
   refine mv rfl rfl ?_
   refine nc rfl rfl ?_
   refine fa F131_5 rfl rfl ?_
   refine cl rfl rfl rfl (t_lenU (j := 5) hc_25 rfl hf_k2_2) rfl (fun v_ H1 L1 hle hR => ?_)
   obtain ⟨rfl, rfl, rfl⟩ := hR
   have hu155 := oek2.u
   have hul155 := hu155.2.1
   obtain ⟨hz155a, hz155b⟩ := part_size_plain (by decide) hu155 hBk2
   refine cv Tryz.runUnderlying3 Tryz.runUnderlying67 rfl (w32u (by omega) (by omega)) rfl ?_
   refine ad rfl rfl ((w32u (by omega) (by omega)).trans (Int.zero_add _)) rfl ?_
   refine cl rfl rfl rfl (k_AppendUvarint (n := ((lT (T.at 1))[k2]).u.length) (by omega) r146 hz155a) rfl (fun v_ H1 L1 hle hR => ?_)
   obtain ⟨rfl, a158, c158, N158, rfl, rfl, h158⟩ := hR
   have r158 := h158.1
   refine asg rfl rfl ?_
   refine nl ?_
   refine rg ?_
   refine mv rfl rfl ?_
   refine nc rfl rfl ?_
   refine fa F131_5 rfl rfl ?_
   refine mv rfl rfl ?_
   refine cl rfl rfl rfl (t_append_each (j := 5) hc_25 rfl hf_k2_2 (by omega) r158 (fun p hp => by have := hu155.2.2 p hp; omega) hz155b) rfl (fun v_ H1 L1 le_31 hR => ?_)
   obtain ⟨a163, c163, N163, rfl, rfl, h163⟩ := hR
   have r163 := h163.1
   have eP_32 : B_k2 ++ plainTo (zipped fs_sAlterUserSCRAMCredentialsRequestUpsertion v true ((lT (T.at 1))[k2])) v 5 ++ uvar ((lT (T.at 1))[k2]).u.length ++ ((lT (T.at 1))[k2]).u.flatMap tagU = B_k2 ++ partB fs_sAlterUserSCRAMCredentialsRequestUpsertion v true ((lT (T.at 1))[k2]) := part_close (B := B_k2) (by decide) hu155
   rw [eP_32] at r163 ⊢
   refine asg rfl rfl ?_
   refine nN ?_
   refine Nb ?_
   have ee_33 : B_k2 ++ partB fs_sAlterUserSCRAMCredentialsRequestUpsertion v true ((lT (T.at 1))[k2]) = D ++ plainTo (zipped fs_AlterUserSCRAMCredentialsRequest v true T) v 1 ++ (counted true false (lT (T.at 1)).length 4) ++ ((lT (T.at 1)).take (k2 + 1)).flatMap (GOf (fs_AlterUserSCRAMCredentialsRequest[1]'(by decide)) v true) := by rw [hdk2]; exact el_end (B0 := D ++ plainTo (zipped fs_AlterUserSCRAMCredentialsRequest v true T) v 1 ++ (counted true false (lT (T.at 1)).length 4)) (G := (GOf (fs_AlterUserSCRAMCredentialsRequest[1]'(by decide)) v true)) hk2 (GOf_part (by decide) _)
   refine fun a_ w_ hA hw => ⟨_, _, _, hA.sub ?_, (le_17.trans le_31), hw, _, rfl, _, _, _, _, rfl, rfl, (by rw [← ee_33]; exact r163), (by rw [← ee_33])⟩
   exact (.of ⟨rfl, rfl, rfl, rfl, rfl, rfl, trivial⟩)
  ·
   obtain ⟨a_k2, m_k2, c_k2, N_k2, rfl, rfl, pk20, pk21⟩ := hI
   refine toWp ?_
   have eL90 : D ++ plainTo (zipped fs_AlterUserSCRAMCredentialsRequest v true T) v 1 ++ (counted true false (lT (T.at 1)).length 4) ++ ((lT (T.at 1)).take (lT (T.at 1)).length).flatMap (GOf (fs_AlterUserSCRAMCredentialsRequest[1]'(by decide)) v true) = D ++ plainTo (zipped fs_AlterUserSCRAMCredentialsRequest v true T) v 2 := by rw [List.take_length, List.append_assoc]; exact e_16
   rw [eL90] at pk20 pk21
   subst pk21
   refine sq ?_
   refine sr ?_
   refine mv rfl rfl ?_
   refine nl ?_
   refine cdT rfl (by omega) ?_
   refine sr ?_
   refine mv rfl rfl ?_
   refine mv rfl rfl ?_
   refine nc rfl rfl ?_
   refine fa0 F77_3 rfl rfl ?_
   refine cl rfl rfl rfl (t_lenU (j := 3) (hv.mono (le_3.trans le_18)) rfl (hf2.mono (le_3.trans le_18))) rfl (fun v_ H1 L1 hle hR => ?_)
   obtain ⟨rfl, rfl, rfl⟩ := hR
   have hu170 := hok.u
   have hul170 := hu170.2.1
   obtain ⟨hz170a, hz170b⟩ := part_size_plain (by decide) hu170 hb
   refine cv Tryz.runUnderlying3 Tryz.runUnderlying67 rfl (w32u (by omega) (by omega)) rfl ?_
   refine ad rfl rfl ((w32u (by omega) (by omega)).trans (Int.zero_add _)) rfl ?_
   refine cl rfl rfl rfl (k_AppendUvarint (n := T.u.length) (by omega) pk20 hz170a) rfl (fun v_ H1 L1 hle hR => ?_)
   obtain ⟨rfl, a173, c173, N173, rfl, rfl, h173⟩ := hR
   have r173 := h173.1
   refine asg rfl rfl ?_
   refine nl ?_
   refine rg ?_
   refine mv rfl rfl ?_
   refine nc rfl rfl ?_
   refine fa0 F77_3 rfl rfl ?_
   refine mv rfl rfl ?_
   refine cl rfl rfl rfl (t_append_each (j := 3) (hv.mono (le_3.trans le_18)) rfl (hf2.mono (le_3.trans le_18)) (by omega) r173 (fun p hp => by have := hu170.2.2 p hp; omega) hz170b) rfl (fun v_ H1 L1 le_34 hR => ?_)
   obtain ⟨a178, c178, N178, rfl, rfl, h178⟩ := hR
   have r178 := h178.1
   have eP_35 : D ++ plainTo (zipped fs_AlterUserSCRAMCredentialsRequest v true T) v 2 ++ uvar T.u.length ++ T.u.flatMap tagU = D ++ partB fs_AlterUserSCRAMCredentialsRequest v true T := part_close (B := D) (by decide) hu170
   rw [eP_35] at r178 ⊢
   refine asg rfl rfl ?_
   refine nl ?_
   refine sr ?_
   refine mv rfl rfl ?_
   refine asg rfl rfl ?_
   refine nl ?_
   exact rT rfl rfl (le_3.trans (le_18.trans le_34)) (fun _ _ h => h) (OutB.of r178 rfl)
end Go.Sx
