import Derived.Test.YtbmkefmfhmbenaaFoldL
import Derived.KernelRfl
set_option linter.unusedVariables false
set_option linter.unusedSimpArgs false
set_option maxRecDepth 100000
namespace Go.Sx
open Go.Proofs
theorem app_OffsetDeleteRequest {H : Fz} {L : Own} {a : Option Addr} {cap b : Nat} {D : List UInt8} {N : Chunk} {cs : List Value} {T t : Tr} {v : Int} (hr : Row 5 1 a D.length cap (bytesOf D) N) (hv : H.at b 0 cs) (hA : At_OffsetDeleteRequest v H T cs) (hT : T = fit fs_OffsetDeleteRequest v t) (h0 : 0 ≤ v) (h1 : v ≤ 0) (hb : D.length + (partB fs_OffsetDeleteRequest v false t).length ≤ LIM) :
    Fn Try.prog 35 [.pointer (some ⟨b, 0, none⟩), .slice a D.length cap] H (N :: L) (OutK L (D ++ partB fs_OffsetDeleteRequest v false t) H) := by
  obtain ⟨a1, c1, rfl, hf0⟩ := hA
  refine Fn.mk Try.call35 Try.func35 rfl Try.ntmps35 rfl ?_
  refine sr ?_
  refine asg rfl rfl ?_
  refine nl ?_
  refine sr ?_
  refine mv rfl rfl ?_
  refine nc rfl rfl ?_
  refine fa0 F54_0 rfl rfl ?_
  refine ld (Says.fz hv) Try.isAgg45 rfl (Nat.zero_add _).symm rfl rfl ?_
  refine asg rfl rfl ?_
  refine nl ?_
  refine sr ?_
  refine mv rfl rfl ?_
  refine nl ?_
  refine sq ?_
  refine sr ?_
  refine mv rfl rfl ?_
  refine nc rfl rfl ?_
  refine fa0 F54_1 rfl rfl ?_
  refine ld (Says.fz hv) Try.isAgg9 rfl (Nat.zero_add _).symm rfl rfl ?_
  refine asg rfl rfl ?_
  refine nl ?_
  refine rg ?_
  refine mv rfl rfl ?_
  refine mv rfl rfl ?_
  have ht26 : (T.at 0) = fitF (fs_OffsetDeleteRequest[0]'(by decide)) v (t.at 0) := by rw [hT]; exact fit_at 0 (by decide)
  have e_1 : D ++ (fixed ((T.at 0).s.length : Int) 2 ++ (T.at 0).s) = D ++ plainTo (zipped fs_OffsetDeleteRequest v false t) v 1 := fold_first (fs := fs_OffsetDeleteRequest) (v := v) (flex := false) (t := t) (B := D) (p := (fixed ((T.at 0).s.length : Int) 2 ++ (T.at 0).s)) 0 plain0 (by decide) (by decide) (by show (decide (0 ≤ v) && true) = true; simp [h0]) (by rw [P_text (by decide), ← ht26, show (T.at 0).nul = false from by rw [ht26]; exact fit_nul (by decide) (by decide) (by decide)]; rfl)
  have hs26 := fold_size e_1 (by decide) hb
  refine cl rfl rfl rfl (k_AppendString (x := (T.at 0).s) hr (by have h := hs26; simp only [LIM, List.length_append, fixed_length] at h ⊢; omega)) rfl (fun v_ H1 L1 hle hR => ?_)
  obtain ⟨rfl, a26, c26, N26, rfl, rfl, h26⟩ := hR
  have r26 := h26.1
  rw [e_1] at r26 ⊢
  refine asg rfl rfl ?_
  refine nl ?_
  refine sq ?_
  refine sr ?_
  refine mv rfl rfl ?_
  refine nc rfl rfl ?_
  refine fa0 F54_2 rfl rfl ?_
  refine ld (Says.fz hv) Try.isAgg52 rfl (Nat.zero_add _).symm rfl rfl ?_
  refine asg rfl rfl ?_
  refine nl ?_
  refine sr ?_
  refine mv rfl rfl ?_
  refine mv rfl rfl ?_
  refine ls Try.runUnderlying52 rfl rfl ?_
  have ht34 : (T.at 1) = fitF (fs_OffsetDeleteRequest[1]'(by decide)) v (t.at 1) := by rw [hT]; exact fit_at 1 (by decide)
  have hl34 : lT (T.at 1) = (lsOf (fs_OffsetDeleteRequest[1]'(by decide)) v (t.at 1)).map (fitV (fs_OffsetDeleteRequest[1]'(by decide)).of (fit (fs_OffsetDeleteRequest[1]'(by decide)).sub v) false) := by rw [ht34]; exact lT_fit (by decide) (by decide)
  have hn34 : (lT (T.at 1)).length = (lsOf (fs_OffsetDeleteRequest[1]'(by decide)) v (t.at 1)).length := by rw [hl34, List.length_map]
  have e_2 : (D ++ plainTo (zipped fs_OffsetDeleteRequest v false t) v 1) ++ ((fixed ((lT (T.at 1)).length : Int) 4) ++ (lsOf (fs_OffsetDeleteRequest[1]'(by decide)) v (t.at 1)).flatMap (GOf (fs_OffsetDeleteRequest[1]'(by decide)) v false)) = D ++ plainTo (zipped fs_OffsetDeleteRequest v false t) v 2 := fold_yes (fs := fs_OffsetDeleteRequest) (v := v) (flex := false) (t := t) (B := D) (p := ((fixed ((lT (T.at 1)).length : Int) 4) ++ (lsOf (fs_OffsetDeleteRequest[1]'(by decide)) v (t.at 1)).flatMap (GOf (fs_OffsetDeleteRequest[1]'(by decide)) v false))) 1 (by decide) (by decide) (by show (decide (0 ≤ v) && true) = true; simp [h0]) (by rw [P_list' (by decide) (by decide), isNul_false (by decide), hn34]; rfl)
  have hs34 := fold_size e_2 (by decide) hb
  refine cl rfl rfl rfl (k_AppendArrayLen (u := ((lT (T.at 1)).length : Int)) r26 (by have h := hs34; simp only [LIM, List.length_append, fixed_length] at h ⊢; omega)) rfl (fun v_ H1 L1 hle hR => ?_)
  obtain ⟨rfl, a34, c34, N34, rfl, rfl, h34⟩ := hR
  have r34 := h34.1
  refine asg rfl rfl ?_
  refine nl ?_
  refine sr ?_
  refine mv rfl rfl ?_
  refine ls Try.runUnderlying52 rfl rfl ?_
  refine mv rfl rfl ?_
  refine nl ?_
  have hll34 := lsOf_len (fs_OffsetDeleteRequest[1]'(by decide)) v (t.at 1)
  refine capF (N := N34) (fun _ => .head) (fun F_5 hF_5 => ?_)
  refine fr ((lT (T.at 1)).length) (fun k l' H' L' => ∃ N_k : Chunk, ∃ a_k m_k c_k, [(7, .slice a1 (lT (T.at 1)).length c1), (36, .int .i64 ((lT (T.at 1)).length : Int)), (1, .slice a_k m_k c_k)] = l' ∧ H = H' ∧ F_5 N_k = L' ∧ Row 5 1 a_k m_k c_k (bytesOf ((D ++ plainTo (zipped fs_OffsetDeleteRequest v false t) v 1) ++ (fixed ((lT (T.at 1)).length : Int) 4) ++ ((lsOf (fs_OffsetDeleteRequest[1]'(by decide)) v (t.at 1)).take k).flatMap (GOf (fs_OffsetDeleteRequest[1]'(by decide)) v false))) N_k ∧ m_k = ((D ++ plainTo (zipped fs_OffsetDeleteRequest v false t) v 1) ++ (fixed ((lT (T.at 1)).length : Int) 4) ++ ((lsOf (fs_OffsetDeleteRequest[1]'(by decide)) v (t.at 1)).take k).flatMap (GOf (fs_OffsetDeleteRequest[1]'(by decide)) v false)).length) [(7, .slice a1 (lT (T.at 1)).length c1), (36, .int .i64 ((lT (T.at 1)).length : Int)), (1, .slice a34 _ c34)] (fun k l' H' L' h => ?_) (by omega) rfl (.cons rfl (.cons rfl (.cons rfl (.nil _)))) ⟨N34, a34, _, c34, rfl, rfl, rfl, (by rw [List.take_zero, List.flatMap_nil, List.append_nil]; exact r34), (by rw [List.take_zero, List.flatMap_nil, List.append_nil])⟩ rfl rfl rfl rfl rfl (fun k l' H' L' hk le_3 hI => ?_) (fun l' H' L' le_4 hI => ?_)
  · obtain ⟨N_k, a_k, m_k, c_k, rfl, _⟩ := h; exact ⟨rfl, rfl, rfl, rfl⟩
  · skip
    obtain ⟨N_k, a_k, m_k, c_k, rfl, rfl, rfl, pk0, pk1⟩ := hI
    rw [hF_5]
    subst pk1
    refine sr ?_
    refine mv rfl rfl ?_
    refine asg rfl rfl ?_
    refine nl ?_
    refine sr ?_
    refine mv rfl rfl ?_
    refine mv rfl rfl ?_
    obtain ⟨b_6, o_7, e_8, g_9⟩ := hf0.rows.at_ (ne_nil_of_lt hk)
    obtain ⟨cs_10, hA_11, hc_12⟩ := g_9 k hk
    refine ix2 Try.runUnderlying52 Try.sizeOf96 rfl e_8 rfl rfl hk rfl ?_
    obtain ⟨a1_k, c1_k, rfl, hf_k0⟩ := hA_11
    obtain ⟨hkk_, hgk⟩ := map_get hl34 hk
    rw [fitV_part (by decide)] at hgk
    have hBk : ((D ++ plainTo (zipped fs_OffsetDeleteRequest v false t) v 1) ++ (fixed ((lT (T.at 1)).length : Int) 4) ++ ((lsOf (fs_OffsetDeleteRequest[1]'(by decide)) v (t.at 1)).take k).flatMap (GOf (fs_OffsetDeleteRequest[1]'(by decide)) v false)).length + (partB fs_sOffsetDeleteRequestTopic v false ((lsOf (fs_OffsetDeleteRequest[1]'(by decide)) v (t.at 1))[k])).length ≤ LIM := el_size hs34 hkk_ (GOf_part (by decide) _)
    refine asg rfl rfl ?_
    refine nl ?_
    refine sq ?_
    refine sr ?_
    refine mv rfl rfl ?_
    refine nc rfl rfl ?_
    refine fa F96_0 rfl rfl ?_
    refine ld (Says.fz hc_12) Try.isAgg9 rfl (Nat.add_zero _).symm rfl rfl ?_
    refine asg rfl rfl ?_
    refine nl ?_
    refine rg ?_
    refine mv rfl rfl ?_
    refine mv rfl rfl ?_
    have ht49 : (((lT (T.at 1))[k]).at 0) = fitF (fs_sOffsetDeleteRequestTopic[0]'(by decide)) v (((lsOf (fs_OffsetDeleteRequest[1]'(by decide)) v (t.at 1))[k]).at 0) := by rw [hgk]; exact fit_at 0 (by decide)
    have e_13 : ((D ++ plainTo (zipped fs_OffsetDeleteRequest v false t) v 1) ++ (fixed ((lT (T.at 1)).length : Int) 4) ++ ((lsOf (fs_OffsetDeleteRequest[1]'(by decide)) v (t.at 1)).take k).flatMap (GOf (fs_OffsetDeleteRequest[1]'(by decide)) v false)) ++ (fixed ((((lT (T.at 1))[k]).at 0).s.length : Int) 2 ++ (((lT (T.at 1))[k]).at 0).s) = ((D ++ plainTo (zipped fs_OffsetDeleteRequest v false t) v 1) ++ (fixed ((lT (T.at 1)).length : Int) 4) ++ ((lsOf (fs_OffsetDeleteRequest[1]'(by decide)) v (t.at 1)).take k).flatMap (GOf (fs_OffsetDeleteRequest[1]'(by decide)) v false)) ++ plainTo (zipped fs_sOffsetDeleteRequestTopic v false ((lsOf (fs_OffsetDeleteRequest[1]'(by decide)) v (t.at 1))[k])) v 1 := fold_first (fs := fs_sOffsetDeleteRequestTopic) (v := v) (flex := false) (t := ((lsOf (fs_OffsetDeleteRequest[1]'(by decide)) v (t.at 1))[k])) (B := ((D ++ plainTo (zipped fs_OffsetDeleteRequest v false t) v 1) ++ (fixed ((lT (T.at 1)).length : Int) 4) ++ ((lsOf (fs_OffsetDeleteRequest[1]'(by decide)) v (t.at 1)).take k).flatMap (GOf (fs_OffsetDeleteRequest[1]'(by decide)) v false))) (p := (fixed ((((lT (T.at 1))[k]).at 0).s.length : Int) 2 ++ (((lT (T.at 1))[k]).at 0).s)) 0 plain0 (by decide) (by decide) (by show (decide (0 ≤ v) && true) = true; simp [h0]) (by rw [P_text (by decide), ← ht49, show (((lT (T.at 1))[k]).at 0).nul = false from by rw [ht49]; exact fit_nul (by decide) (by decide) (by decide)]; rfl)
    have hs49 := fold_size e_13 (by decide) hBk
    refine cl rfl rfl rfl (k_AppendString (x := (((lT (T.at 1))[k]).at 0).s) pk0 (by have h := hs49; simp only [LIM, List.length_append, fixed_length] at h ⊢; omega)) rfl (fun v_ H1 L1 hle hR => ?_)
    obtain ⟨rfl, a49, c49, N49, rfl, rfl, h49⟩ := hR
    have r49 := h49.1
    rw [e_13] at r49 ⊢
    refine asg rfl rfl ?_
    refine nl ?_
    refine sr ?_
    refine mv rfl rfl ?_
    refine nc rfl rfl ?_
    refine fa F96_1 rfl rfl ?_
    refine ld (Says.fz hc_12) Try.isAgg94 rfl rfl rfl rfl ?_
    refine asg rfl rfl ?_
    refine nl ?_
    refine sr ?_
    refine mv rfl rfl ?_
    refine mv rfl rfl ?_
    refine ls Try.runUnderlying94 rfl rfl ?_
    have ht57 : (((lT (T.at 1))[k]).at 1) = fitF (fs_sOffsetDeleteRequestTopic[1]'(by decide)) v (((lsOf (fs_OffsetDeleteRequest[1]'(by decide)) v (t.at 1))[k]).at 1) := by rw [hgk]; exact fit_at 1 (by decide)
    have hl57 : lT (((lT (T.at 1))[k]).at 1) = (lsOf (fs_sOffsetDeleteRequestTopic[1]'(by decide)) v (((lsOf (fs_OffsetDeleteRequest[1]'(by decide)) v (t.at 1))[k]).at 1)).map (fitV (fs_sOffsetDeleteRequestTopic[1]'(by decide)).of (fit (fs_sOffsetDeleteRequestTopic[1]'(by decide)).sub v) false) := by rw [ht57]; exact lT_fit (by decide) (by decide)
    have hn57 : (lT (((lT (T.at 1))[k]).at 1)).length = (lsOf (fs_sOffsetDeleteRequestTopic[1]'(by decide)) v (((lsOf (fs_OffsetDeleteRequest[1]'(by decide)) v (t.at 1))[k]).at 1)).length := by rw [hl57, List.length_map]
    have e_14 : (((D ++ plainTo (zipped fs_OffsetDeleteRequest v false t) v 1) ++ (fixed ((lT (T.at 1)).length : Int) 4) ++ ((lsOf (fs_OffsetDeleteRequest[1]'(by decide)) v (t.at 1)).take k).flatMap (GOf (fs_OffsetDeleteRequest[1]'(by decide)) v false)) ++ plainTo (zipped fs_sOffsetDeleteRequestTopic v false ((lsOf (fs_OffsetDeleteRequest[1]'(by decide)) v (t.at 1))[k])) v 1) ++ ((fixed ((lT (((lT (T.at 1))[k]).at 1)).length : Int) 4) ++ (lsOf (fs_sOffsetDeleteRequestTopic[1]'(by decide)) v (((lsOf (fs_OffsetDeleteRequest[1]'(by decide)) v (t.at 1))[k]).at 1)).flatMap (GOf (fs_sOffsetDeleteRequestTopic[1]'(by decide)) v false)) = ((D ++ plainTo (zipped fs_OffsetDeleteRequest v false t) v 1) ++ (fixed ((lT (T.at 1)).length : Int) 4) ++ ((lsOf (fs_OffsetDeleteRequest[1]'(by decide)) v (t.at 1)).take k).flatMap (GOf (fs_OffsetDeleteRequest[1]'(by decide)) v false)) ++ plainTo (zipped fs_sOffsetDeleteRequestTopic v false ((lsOf (fs_OffsetDeleteRequest[1]'(by decide)) v (t.at 1))[k])) v 2 := fold_yes (fs := fs_sOffsetDeleteRequestTopic) (v := v) (flex := false) (t := ((lsOf (fs_OffsetDeleteRequest[1]'(by decide)) v (t.at 1))[k])) (B := ((D ++ plainTo (zipped fs_OffsetDeleteRequest v false t) v 1) ++ (fixed ((lT (T.at 1)).length : Int) 4) ++ ((lsOf (fs_OffsetDeleteRequest[1]'(by decide)) v (t.at 1)).take k).flatMap (GOf (fs_OffsetDeleteRequest[1]'(by decide)) v false))) (p := ((fixed ((lT (((lT (T.at 1))[k]).at 1)).length : Int) 4) ++ (lsOf (fs_sOffsetDeleteRequestTopic[1]'(by decide)) v (((lsOf (fs_OffsetDeleteRequest[1]'(by decide)) v (t.at 1))[k]).at 1)).flatMap (GOf (fs_sOffsetDeleteRequestTopic[1]'(by decide)) v false))) 1 (by decide) (by decide) (by show (decide (0 ≤ v) && true) = true; simp [h0]) (by rw [P_list' (by decide) (by decide), isNul_false (by decide), hn57]; rfl)
    have hs57 := fold_size e_14 (by decide) hBk
    refine cl rfl rfl rfl (k_AppendArrayLen (u := ((lT (((lT (T.at 1))[k]).at 1)).length : Int)) r49 (by have h := hs57; simp only [LIM, List.length_append, fixed_length] at h ⊢; omega)) rfl (fun v_ H1 L1 hle hR => ?_)
    obtain ⟨rfl, a57, c57, N57, rfl, rfl, h57⟩ := hR
    have r57 := h57.1
    refine asg rfl rfl ?_
    refine nl ?_
    refine sr ?_
    refine mv rfl rfl ?_
    refine ls Try.runUnderlying94 rfl rfl ?_
    refine mv rfl rfl ?_
    refine nl ?_
    have hll57 := lsOf_len (fs_sOffsetDeleteRequestTopic[1]'(by decide)) v (((lsOf (fs_OffsetDeleteRequest[1]'(by decide)) v (t.at 1))[k]).at 1)
    refine capF (N := N57) (fun _ => .head) (fun F_17 hF_17 => ?_)
    refine fr ((lT (((lT (T.at 1))[k]).at 1)).length) (fun j l' H' L' => ∃ N_j : Chunk, ∃ a_j m_j c_j, [(7, .slice a1 (lT (T.at 1)).length c1), (8, .int .i64 (k : Int)), (9, .pointer (some ⟨b_6, o_7 + k * 2, none⟩)), (11, .slice a1_k (lT (((lT (T.at 1))[k]).at 1)).length c1_k), (36, .int .i64 ((lT (T.at 1)).length : Int)), (37, .int .i64 (k : Int)), (39, .int .i64 (k : Int)), (40, .slice a1 (lT (T.at 1)).length c1), (41, .int .i64 (k : Int)), (42, .pointer (some ⟨b_6, o_7 + k * 2, none⟩)), (43, .pointer (some ⟨b_6, o_7 + k * 2, none⟩)), (44, .pointer (some ⟨b_6, o_7 + k * 2, none⟩)), (45, .pointer (some ⟨b_6, o_7 + k * 2, none⟩)), (50, .pointer (some ⟨b_6, o_7 + k * 2, none⟩)), (51, .pointer (some ⟨b_6, o_7 + k * 2, none⟩)), (53, .slice a1_k (lT (((lT (T.at 1))[k]).at 1)).length c1_k), (55, .slice a1_k (lT (((lT (T.at 1))[k]).at 1)).length c1_k), (56, .int .i64 ((lT (((lT (T.at 1))[k]).at 1)).length : Int)), (58, .slice a1_k (lT (((lT (T.at 1))[k]).at 1)).length c1_k), (59, .int .i64 ((lT (((lT (T.at 1))[k]).at 1)).length : Int)), (1, .slice a_j m_j c_j)] = l' ∧ H = H' ∧ F_17 N_j = L' ∧ Row 5 1 a_j m_j c_j (bytesOf ((((D ++ plainTo (zipped fs_OffsetDeleteRequest v false t) v 1) ++ (fixed ((lT (T.at 1)).length : Int) 4) ++ ((lsOf (fs_OffsetDeleteRequest[1]'(by decide)) v (t.at 1)).take k).flatMap (GOf (fs_OffsetDeleteRequest[1]'(by decide)) v false)) ++ plainTo (zipped fs_sOffsetDeleteRequestTopic v false ((lsOf (fs_OffsetDeleteRequest[1]'(by decide)) v (t.at 1))[k])) v 1) ++ (fixed ((lT (((lT (T.at 1))[k]).at 1)).length : Int) 4) ++ ((lsOf (fs_sOffsetDeleteRequestTopic[1]'(by decide)) v (((lsOf (fs_OffsetDeleteRequest[1]'(by decide)) v (t.at 1))[k]).at 1)).take j).flatMap (GOf (fs_sOffsetDeleteRequestTopic[1]'(by decide)) v false))) N_j ∧ m_j = ((((D ++ plainTo (zipped fs_OffsetDeleteRequest v false t) v 1) ++ (fixed ((lT (T.at 1)).length : Int) 4) ++ ((lsOf (fs_OffsetDeleteRequest[1]'(by decide)) v (t.at 1)).take k).flatMap (GOf (fs_OffsetDeleteRequest[1]'(by decide)) v false)) ++ plainTo (zipped fs_sOffsetDeleteRequestTopic v false ((lsOf (fs_OffsetDeleteRequest[1]'(by decide)) v (t.at 1))[k])) v 1) ++ (fixed ((lT (((lT (T.at 1))[k]).at 1)).length : Int) 4) ++ ((lsOf (fs_sOffsetDeleteRequestTopic[1]'(by decide)) v (((lsOf (fs_OffsetDeleteRequest[1]'(by decide)) v (t.at 1))[k]).at 1)).take j).flatMap (GOf (fs_sOffsetDeleteRequestTopic[1]'(by decide)) v false)).length) [(7, .slice a1 (lT (T.at 1)).length c1), (8, .int .i64 (k : Int)), (9, .pointer (some ⟨b_6, o_7 + k * 2, none⟩)), (11, .slice a1_k (lT (((lT (T.at 1))[k]).at 1)).length c1_k), (36, .int .i64 ((lT (T.at 1)).length : Int)), (37, .int .i64 (k : Int)), (39, .int .i64 (k : Int)), (40, .slice a1 (lT (T.at 1)).length c1), (41, .int .i64 (k : Int)), (42, .pointer (some ⟨b_6, o_7 + k * 2, none⟩)), (43, .pointer (some ⟨b_6, o_7 + k * 2, none⟩)), (44, .pointer (some ⟨b_6, o_7 + k * 2, none⟩)), (45, .pointer (some ⟨b_6, o_7 + k * 2, none⟩)), (50, .pointer (some ⟨b_6, o_7 + k * 2, none⟩)), (51, .pointer (some ⟨b_6, o_7 + k * 2, none⟩)), (53, .slice a1_k (lT (((lT (T.at 1))[k]).at 1)).length c1_k), (55, .slice a1_k (lT (((lT (T.at 1))[k]).at 1)).length c1_k), (56, .int .i64 ((lT (((lT (T.at 1))[k]).at 1)).length : Int)), (58, .slice a1_k (lT (((lT (T.at 1))[k]).at 1)).length c1_k), (59, .int .i64 ((lT (((lT (T.at 1))[k]).at 1)).length : Int)), (1, .slice a57 _ c57)] (fun j l' H' L' h => ?_) (by omega) rfl (.cons rfl (.cons rfl (.cons rfl (.cons rfl (.cons rfl (.cons rfl (.cons rfl (.cons rfl (.cons rfl (.cons rfl (.cons rfl (.cons rfl (.cons rfl (.cons rfl (.cons rfl (.cons rfl (.cons rfl (.cons rfl (.cons rfl (.cons rfl (.cons rfl (.nil _)))))))))))))))))))))) ⟨N57, a57, _, c57, rfl, rfl, rfl, (by rw [List.take_zero, List.flatMap_nil, List.append_nil]; exact r57), (by rw [List.take_zero, List.flatMap_nil, List.append_nil])⟩ rfl rfl rfl rfl rfl (fun j l' H' L' hj le_15 hI => ?_) (fun l' H' L' le_16 hI => ?_)
    · obtain ⟨N_j, a_j, m_j, c_j, rfl, _⟩ := h; exact ⟨rfl, rfl, rfl, rfl⟩
    · skip
      obtain ⟨N_j, a_j, m_j, c_j, rfl, rfl, rfl, pj0, pj1⟩ := hI
      rw [hF_17]
      subst pj1
      refine sr ?_
      refine mv rfl rfl ?_
      refine asg rfl rfl ?_
      refine nl ?_
      refine sr ?_
      refine mv rfl rfl ?_
      refine mv rfl rfl ?_
      obtain ⟨b_18, o_19, e_20, g_21⟩ := hf_k0.rows.at_ (ne_nil_of_lt hj)
      obtain ⟨cs_22, hA_23, hc_24⟩ := g_21 j hj
      refine ix2 Try.runUnderlying94 Try.sizeOf103 rfl e_20 rfl rfl hj rfl ?_
      subst hA_23
      obtain ⟨hkj_, hgj⟩ := map_get hl57 hj
      rw [fitV_part (by decide)] at hgj
      have hBj : ((((D ++ plainTo (zipped fs_OffsetDeleteRequest v false t) v 1) ++ (fixed ((lT (T.at 1)).length : Int) 4) ++ ((lsOf (fs_OffsetDeleteRequest[1]'(by decide)) v (t.at 1)).take k).flatMap (GOf (fs_OffsetDeleteRequest[1]'(by decide)) v false)) ++ plainTo (zipped fs_sOffsetDeleteRequestTopic v false ((lsOf (fs_OffsetDeleteRequest[1]'(by decide)) v (t.at 1))[k])) v 1) ++ (fixed ((lT (((lT (T.at 1))[k]).at 1)).length : Int) 4) ++ ((lsOf (fs_sOffsetDeleteRequestTopic[1]'(by decide)) v (((lsOf (fs_OffsetDeleteRequest[1]'(by decide)) v (t.at 1))[k]).at 1)).take j).flatMap (GOf (fs_sOffsetDeleteRequestTopic[1]'(by decide)) v false)).length + (partB fs_sOffsetDeleteRequestTopicPartition v false ((lsOf (fs_sOffsetDeleteRequestTopic[1]'(by decide)) v (((lsOf (fs_OffsetDeleteRequest[1]'(by decide)) v (t.at 1))[k]).at 1))[j])).length ≤ LIM := el_size hs57 hkj_ (GOf_part (by decide) _)
      refine asg rfl rfl ?_
      refine nl ?_
      refine sr ?_
      refine mv rfl rfl ?_
      refine nc rfl rfl ?_
      refine fa F103_0 rfl rfl ?_
      refine ld (Says.fz hc_24) Try.isAgg21 rfl (Nat.add_zero _).symm rfl rfl ?_
      refine asg rfl rfl ?_
      refine nl ?_
      refine rg ?_
      refine mv rfl rfl ?_
      refine mv rfl rfl ?_
      have ht72 : (((lT (((lT (T.at 1))[k]).at 1))[j]).at 0) = fitF (fs_sOffsetDeleteRequestTopicPartition[0]'(by decide)) v (((lsOf (fs_sOffsetDeleteRequestTopic[1]'(by decide)) v (((lsOf (fs_OffsetDeleteRequest[1]'(by decide)) v (t.at 1))[k]).at 1))[j]).at 0) := by rw [hgj]; exact fit_at 0 (by decide)
      have e_25 : ((((D ++ plainTo (zipped fs_OffsetDeleteRequest v false t) v 1) ++ (fixed ((lT (T.at 1)).length : Int) 4) ++ ((lsOf (fs_OffsetDeleteRequest[1]'(by decide)) v (t.at 1)).take k).flatMap (GOf (fs_OffsetDeleteRequest[1]'(by decide)) v false)) ++ plainTo (zipped fs_sOffsetDeleteRequestTopic v false ((lsOf (fs_OffsetDeleteRequest[1]'(by decide)) v (t.at 1))[k])) v 1) ++ (fixed ((lT (((lT (T.at 1))[k]).at 1)).length : Int) 4) ++ ((lsOf (fs_sOffsetDeleteRequestTopic[1]'(by decide)) v (((lsOf (fs_OffsetDeleteRequest[1]'(by decide)) v (t.at 1))[k]).at 1)).take j).flatMap (GOf (fs_sOffsetDeleteRequestTopic[1]'(by decide)) v false)) ++ (fixed (IntKind.i32.wrap (((lT (((lT (T.at 1))[k]).at 1))[j]).at 0).n) 4) = ((((D ++ plainTo (zipped fs_OffsetDeleteRequest v false t) v 1) ++ (fixed ((lT (T.at 1)).length : Int) 4) ++ ((lsOf (fs_OffsetDeleteRequest[1]'(by decide)) v (t.at 1)).take k).flatMap (GOf (fs_OffsetDeleteRequest[1]'(by decide)) v false)) ++ plainTo (zipped fs_sOffsetDeleteRequestTopic v false ((lsOf (fs_OffsetDeleteRequest[1]'(by decide)) v (t.at 1))[k])) v 1) ++ (fixed ((lT (((lT (T.at 1))[k]).at 1)).length : Int) 4) ++ ((lsOf (fs_sOffsetDeleteRequestTopic[1]'(by decide)) v (((lsOf (fs_OffsetDeleteRequest[1]'(by decide)) v (t.at 1))[k]).at 1)).take j).flatMap (GOf (fs_sOffsetDeleteRequestTopic[1]'(by decide)) v false)) ++ plainTo (zipped fs_sOffsetDeleteRequestTopicPartition v false ((lsOf (fs_sOffsetDeleteRequestTopic[1]'(by decide)) v (((lsOf (fs_OffsetDeleteRequest[1]'(by decide)) v (t.at 1))[k]).at 1))[j])) v 1 := fold_first (fs := fs_sOffsetDeleteRequestTopicPartition) (v := v) (flex := false) (t := ((lsOf (fs_sOffsetDeleteRequestTopic[1]'(by decide)) v (((lsOf (fs_OffsetDeleteRequest[1]'(by decide)) v (t.at 1))[k]).at 1))[j])) (B := ((((D ++ plainTo (zipped fs_OffsetDeleteRequest v false t) v 1) ++ (fixed ((lT (T.at 1)).length : Int) 4) ++ ((lsOf (fs_OffsetDeleteRequest[1]'(by decide)) v (t.at 1)).take k).flatMap (GOf (fs_OffsetDeleteRequest[1]'(by decide)) v false)) ++ plainTo (zipped fs_sOffsetDeleteRequestTopic v false ((lsOf (fs_OffsetDeleteRequest[1]'(by decide)) v (t.at 1))[k])) v 1) ++ (fixed ((lT (((lT (T.at 1))[k]).at 1)).length : Int) 4) ++ ((lsOf (fs_sOffsetDeleteRequestTopic[1]'(by decide)) v (((lsOf (fs_OffsetDeleteRequest[1]'(by decide)) v (t.at 1))[k]).at 1)).take j).flatMap (GOf (fs_sOffsetDeleteRequestTopic[1]'(by decide)) v false))) (p := (fixed (IntKind.i32.wrap (((lT (((lT (T.at 1))[k]).at 1))[j]).at 0).n) 4)) 0 plain0 (by decide) (by decide) (by show (decide (0 ≤ v) && true) = true; simp [h0]) (by rw [P_int (by decide) (by decide), ← ht72, fixed_i32]; rfl)
      have hs72 := fold_size e_25 (by decide) hBj
      refine cl rfl rfl rfl (k_AppendInt32 (u := IntKind.i32.wrap (((lT (((lT (T.at 1))[k]).at 1))[j]).at 0).n) pj0 (by have h := hs72; simp only [LIM, List.length_append, fixed_length] at h ⊢; omega)) rfl (fun v_ H1 L1 hle hR => ?_)
      obtain ⟨rfl, a72, c72, N72, rfl, rfl, h72⟩ := hR
      have r72 := h72.1
      rw [e_25] at r72 ⊢
      refine asg rfl rfl ?_
      refine nN ?_
      refine Nb ?_
      have hpe : GOf (fs_sOffsetDeleteRequestTopic[1]'(by decide)) v false ((lsOf (fs_sOffsetDeleteRequestTopic[1]'(by decide)) v (((lsOf (fs_OffsetDeleteRequest[1]'(by decide)) v (t.at 1))[k]).at 1))[j]) = plainTo (zipped fs_sOffsetDeleteRequestTopicPartition v false ((lsOf (fs_sOffsetDeleteRequestTopic[1]'(by decide)) v (((lsOf (fs_OffsetDeleteRequest[1]'(by decide)) v (t.at 1))[k]).at 1))[j])) v 1 := (GOf_part (by decide) _).trans partB_false
      refine fun a w hA hw => ⟨_, _, _, hA.sub ?_, (Fz.le.refl _), hw, _, rfl, N72, a72, _, c72, rfl, rfl, hF_17 _, (by rw [← el_end hkj_ hpe]; exact r72), (by rw [← el_end hkj_ hpe])⟩
      exact (.cons rfl (.cons rfl (.cons rfl (.cons rfl (.cons rfl (.cons rfl (.cons rfl (.cons rfl (.cons rfl (.cons rfl (.cons rfl (.cons rfl (.cons rfl (.cons rfl (.cons rfl (.cons rfl (.cons rfl (.cons rfl (.cons rfl (.cons rfl (.cons rfl (.cons rfl (.nil _)))))))))))))))))))))))
    · skip
      obtain ⟨N_j, a_j, m_j, c_j, rfl, rfl, rfl, pj0, pj1⟩ := hI
      rw [hF_17]
      refine toNn ?_
      have eL : (((D ++ plainTo (zipped fs_OffsetDeleteRequest v false t) v 1) ++ (fixed ((lT (T.at 1)).length : Int) 4) ++ ((lsOf (fs_OffsetDeleteRequest[1]'(by decide)) v (t.at 1)).take k).flatMap (GOf (fs_OffsetDeleteRequest[1]'(by decide)) v false)) ++ plainTo (zipped fs_sOffsetDeleteRequestTopic v false ((lsOf (fs_OffsetDeleteRequest[1]'(by decide)) v (t.at 1))[k])) v 1) ++ (fixed ((lT (((lT (T.at 1))[k]).at 1)).length : Int) 4) ++ ((lsOf (fs_sOffsetDeleteRequestTopic[1]'(by decide)) v (((lsOf (fs_OffsetDeleteRequest[1]'(by decide)) v (t.at 1))[k]).at 1)).take (lT (((lT (T.at 1))[k]).at 1)).length).flatMap (GOf (fs_sOffsetDeleteRequestTopic[1]'(by decide)) v false) = ((D ++ plainTo (zipped fs_OffsetDeleteRequest v false t) v 1) ++ (fixed ((lT (T.at 1)).length : Int) 4) ++ ((lsOf (fs_OffsetDeleteRequest[1]'(by decide)) v (t.at 1)).take k).flatMap (GOf (fs_OffsetDeleteRequest[1]'(by decide)) v false)) ++ plainTo (zipped fs_sOffsetDeleteRequestTopic v false ((lsOf (fs_OffsetDeleteRequest[1]'(by decide)) v (t.at 1))[k])) v 2 := by rw [show (lsOf (fs_sOffsetDeleteRequestTopic[1]'(by decide)) v (((lsOf (fs_OffsetDeleteRequest[1]'(by decide)) v (t.at 1))[k]).at 1)).take (lT (((lT (T.at 1))[k]).at 1)).length = (lsOf (fs_sOffsetDeleteRequestTopic[1]'(by decide)) v (((lsOf (fs_OffsetDeleteRequest[1]'(by decide)) v (t.at 1))[k]).at 1)) from List.take_of_length_le (by omega), List.append_assoc]; exact e_14
      rw [eL] at pj0 pj1
      subst pj1
      have rr57 := pj0
      refine Nb ?_
      have hpe : GOf (fs_OffsetDeleteRequest[1]'(by decide)) v false ((lsOf (fs_OffsetDeleteRequest[1]'(by decide)) v (t.at 1))[k]) = plainTo (zipped fs_sOffsetDeleteRequestTopic v false ((lsOf (fs_OffsetDeleteRequest[1]'(by decide)) v (t.at 1))[k])) v 2 := (GOf_part (by decide) _).trans partB_false
      refine fun a w hA hw => ⟨_, _, _, hA.sub ?_, (Fz.le.refl _), hw, _, rfl, N_j, a_j, _, c_j, rfl, rfl, hF_5 _, (by rw [← el_end hkk_ hpe]; exact rr57), (by rw [← el_end hkk_ hpe])⟩
      exact (.cons rfl (.cons rfl (.cons rfl (.cons rfl (.nil _)))))
  · skip
    obtain ⟨N_k, a_k, m_k, c_k, rfl, rfl, rfl, pk0, pk1⟩ := hI
    rw [hF_5]
    refine toWp ?_
    have eL : (D ++ plainTo (zipped fs_OffsetDeleteRequest v false t) v 1) ++ (fixed ((lT (T.at 1)).length : Int) 4) ++ ((lsOf (fs_OffsetDeleteRequest[1]'(by decide)) v (t.at 1)).take (lT (T.at 1)).length).flatMap (GOf (fs_OffsetDeleteRequest[1]'(by decide)) v false) = D ++ plainTo (zipped fs_OffsetDeleteRequest v false t) v 2 := by rw [show (lsOf (fs_OffsetDeleteRequest[1]'(by decide)) v (t.at 1)).take (lT (T.at 1)).length = (lsOf (fs_OffsetDeleteRequest[1]'(by decide)) v (t.at 1)) from List.take_of_length_le (by omega), List.append_assoc]; exact e_2
    rw [eL] at pk0 pk1
    subst pk1
    have rr34 := pk0
    refine sr ?_
    refine mv rfl rfl ?_
    refine asg rfl rfl ?_
    refine nl ?_
    exact rT rfl rfl (Fz.le.refl _) (fun _ _ h => h) ⟨rfl, OutB.of rr34 (by rw [partB_false]; rfl)⟩
end Go.Sx
