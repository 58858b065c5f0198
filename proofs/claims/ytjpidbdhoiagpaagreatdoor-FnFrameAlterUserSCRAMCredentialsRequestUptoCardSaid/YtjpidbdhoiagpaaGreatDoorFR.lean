import Derived.Test.YtjpidbdhoiagpaaGreatDoorSxTab
import Derived.Test.YtjpidbdhoiagpaaGreatDoorKB2
import Derived.Test.YtjpidbdhoiagpaaGreatDoorFrB
import Derived.Test.YtjpidbdhoiagpaaGreatDoorS2
import Derived.Test.YtjpidbdhoiagpaaGreatDoorLibI
import Derived.KernelRfl
set_option linter.unusedVariables false
set_option linter.unusedSimpArgs false
set_option maxRecDepth 100000
set_option maxHeartbeats 20000000
namespace Go.Sx
open Go.Proofs
theorem s_frame {H : Fz} {L : Own} {key ver num : Int} {hs fl : Bool} {ia ba : Option Addr} {ic bc : Nat} {x body : List UInt8} (hI : BytesAt H ia ic x) (hD : BytesAt H ba bc body) (hx : x.length ≤ 32767) (hb : body.length ≤ 68719476736) (hn0 : -2147483648 ≤ num) (hn1 : num ≤ 2147483647) :
  Fn Tryz.prog 16 [.int .i64 key, .int .i64 ver, .int .i32 num, .bool hs, .slice ia x.length ic, .bool fl, .slice ba body.length bc] H L (fun v H' L' => OutB 5 L (frameB key ver num hs x fl body) v L') := by
 have fx0 := fixed_length key 2
 have fx1 := fixed_length ver 2
 have fx2 := fixed_length num 4
 have fx3 := fixed_length (x.length : Int) 2
 have fx4 := fixed_length (-1) 2
 refine Fn.mk Tryz.call16 Tryz.func16 rfl Tryz.ntmps16 rfl ?_
 refine sr ?_
 refine asg rfl rfl ?_
 refine nl ?_
 refine sr ?_
 refine mv rfl rfl ?_
 refine cl rfl rfl rfl (s_fixed' (size := 2) (by omega)) rfl (fun v H1 L1 hle hR => ?_)
 obtain ⟨rfl, a17, c17, N17, rfl, rfl, h17⟩ := hR
 have q17 := h17.1
 rw [fixed_length] at q17 ⊢
 refine mv rfl rfl ?_
 refine cl rfl rfl rfl (s_fixed' (size := 2) (by omega)) rfl (fun v H1 L1 hle hR => ?_)
 obtain ⟨rfl, a19, c19, N19, rfl, rfl, h19⟩ := hR
 have q19 := h19.1
 rw [fixed_length] at q19 ⊢
 refine ap (news := bytesOf (fixed ver 2)) Tryz.underlying24 I5 rfl rfl q17 (fun _ => (.tail .head)) (src_row Tryz.underlying24 q19 .head) (by omega) (by unfold maxLen; omega) rfl (fun a20 c20 N20 r20 z20 => ?_)
 rw [← bytesOf_append] at r20
 refine asg rfl rfl ?_
 refine nl ?_
 refine sr ?_
 refine mv rfl rfl ?_
 refine mv rfl rfl ?_
 refine cv Tryz.runUnderlying21 Tryz.runUnderlying2 rfl (w64 (by omega) (by omega)) rfl ?_
 refine cl rfl rfl rfl (s_fixed' (size := 4) (by omega)) rfl (fun v H1 L1 hle hR => ?_)
 obtain ⟨rfl, a24, c24, N24, rfl, rfl, h24⟩ := hR
 have q24 := h24.1
 rw [fixed_length] at q24 ⊢
 refine ap (news := bytesOf (fixed num 4)) Tryz.underlying24 I5 rfl rfl r20 (fun _ => (.tail (.tail .head))) (src_row Tryz.underlying24 q24 .head) (by omega) (by unfold maxLen; omega) rfl (fun a25 c25 N25 r25 z25 => ?_)
 rw [← bytesOf_append] at r25
 refine asg rfl rfl ?_
 refine nl ?_
 refine sq ?_
 refine sr ?_
 refine mv rfl rfl ?_
 refine nl ?_
 refine cbU rfl (fun h26 => ?_) (fun h26 => ?_)
 ·
  refine rg ?_
  refine mv rfl rfl ?_
  refine mv rfl rfl ?_
  refine ls Tryz.runUnderlying24 rfl rfl ?_
  refine cl rfl rfl rfl (s_fixed' (size := 2) (by omega)) rfl (fun v H1 L1 hle hR => ?_)
  obtain ⟨rfl, a30, c30, N30, rfl, rfl, h30⟩ := hR
  have q30 := h30.1
  rw [fixed_length] at q30 ⊢
  refine ap (news := bytesOf (fixed (x.length : Int) 2)) Tryz.underlying24 I5 rfl rfl r25 (fun _ => (.tail (.tail (.tail .head)))) (src_row Tryz.underlying24 q30 .head) (by omega) (by unfold maxLen; omega) rfl (fun a31 c31 N31 r31 z31 => ?_)
  rw [← bytesOf_append] at r31
  refine mv rfl rfl ?_
  refine ap (news := bytesOf x) Tryz.underlying24 I5 rfl rfl r31 (fun _ => (.tail (.tail (.tail .head)))) (src_bytes Tryz.underlying24 hI rfl) (by omega) (by unfold maxLen; omega) rfl (fun a33 c33 N33 r33 z33 => ?_)
  rw [← bytesOf_append] at r33
  refine asg rfl rfl ?_
  refine nl ?_
  refine sq ?_
  refine sr ?_
  refine mv rfl rfl ?_
  refine nl ?_
  refine cbU rfl (fun h37 => ?_) (fun h37 => ?_)
  ·
   refine rg ?_
   refine mv rfl rfl ?_
   refine bs' L24 rfl rfl rfl rfl (fun b_1 => ?_)
   refine ap (news := bytesOf [0]) Tryz.underlying24 I5 rfl rfl r33 (fun _ => (.tail (.tail (.tail (.tail .head))))) (src_says Tryz.underlying24 rfl (fun _ => Says.own .head) (bytesOf_one [0])) (by omega) (by unfold maxLen; omega) rfl (fun a40 c40 N40 r40 z40 => ?_)
   rw [← bytesOf_append] at r40
   refine asg rfl rfl ?_
   refine nl ?_
   refine sr ?_
   refine mv rfl rfl ?_
   refine mv rfl rfl ?_
   refine ap (news := bytesOf body) Tryz.underlying24 I5 rfl rfl r40 (fun _ => (.tail (.tail (.tail (.tail .head))))) (src_bytes Tryz.underlying24 hD rfl) (by omega) (by unfold maxLen; omega) rfl (fun a43 c43 N43 r43 z43 => ?_)
   rw [← bytesOf_append] at r43
   refine asg rfl rfl ?_
   refine nl ?_
   refine sr ?_
   refine mv rfl rfl ?_
   refine ls Tryz.runUnderlying24 rfl rfl ?_
   refine cl rfl rfl rfl (s_fixed' (size := 4) (by omega)) rfl (fun v H1 L1 hle hR => ?_)
   obtain ⟨rfl, a46, c46, N46, rfl, rfl, h46⟩ := hR
   have q46 := h46.1
   rw [fixed_length] at q46 ⊢
   refine mv rfl rfl ?_
   refine ap (news := bytesOf (((((((fixed key 2) ++ (fixed ver 2)) ++ (fixed num 4)) ++ (fixed (x.length : Int) 2)) ++ x) ++ [0]) ++ body)) Tryz.underlying24 I5 rfl rfl q46 (fun _ => .head) (src_row Tryz.underlying24 r43 (.tail (.tail (.tail (.tail (.tail .head)))))) (by omega) (by unfold maxLen; omega) rfl (fun a48 c48 N48 r48 z48 => ?_)
   rw [← bytesOf_append] at r48
   refine asg rfl rfl ?_
   refine nl ?_
   refine drW (.tail .head) ?_
   refine drW (.tail .head) ?_
   refine drW (.tail .head) ?_
   refine drW (.tail .head) ?_
   refine drW (.tail .head) ?_
   exact rT rfl rfl ler (fun _ _ h => h) (OutB.of r48 (by unfold frameB frameIn idB; simp only [h26, h37, if_true, Bool.false_eq_true, if_false, List.length_append, List.append_assoc, List.append_nil, List.nil_append, List.length_nil, List.length_cons, fixed_length]; congr 2; omega))
  ·
   refine skt ?_
   refine sr ?_
   refine mv rfl rfl ?_
   refine mv rfl rfl ?_
   refine ap (news := bytesOf body) Tryz.underlying24 I5 rfl rfl r33 (fun _ => (.tail (.tail (.tail .head)))) (src_bytes Tryz.underlying24 hD rfl) (by omega) (by unfold maxLen; omega) rfl (fun a43 c43 N43 r43 z43 => ?_)
   rw [← bytesOf_append] at r43
   refine asg rfl rfl ?_
   refine nl ?_
   refine sr ?_
   refine mv rfl rfl ?_
   refine ls Tryz.runUnderlying24 rfl rfl ?_
   refine cl rfl rfl rfl (s_fixed' (size := 4) (by omega)) rfl (fun v H1 L1 hle hR => ?_)
   obtain ⟨rfl, a46, c46, N46, rfl, rfl, h46⟩ := hR
   have q46 := h46.1
   rw [fixed_length] at q46 ⊢
   refine mv rfl rfl ?_
   refine ap (news := bytesOf ((((((fixed key 2) ++ (fixed ver 2)) ++ (fixed num 4)) ++ (fixed (x.length : Int) 2)) ++ x) ++ body)) Tryz.underlying24 I5 rfl rfl q46 (fun _ => .head) (src_row Tryz.underlying24 r43 (.tail (.tail (.tail (.tail .head))))) (by omega) (by unfold maxLen; omega) rfl (fun a48 c48 N48 r48 z48 => ?_)
   rw [← bytesOf_append] at r48
   refine asg rfl rfl ?_
   refine nl ?_
   refine drW (.tail .head) ?_
   refine drW (.tail .head) ?_
   refine drW (.tail .head) ?_
   refine drW (.tail .head) ?_
   exact rT rfl rfl ler (fun _ _ h => h) (OutB.of r48 (by unfold frameB frameIn idB; simp only [h26, h37, if_true, Bool.false_eq_true, if_false, List.length_append, List.append_assoc, List.append_nil, List.nil_append, List.length_nil, List.length_cons, fixed_length]; congr 2; omega))
 ·
  refine rg ?_
  refine mv rfl rfl ?_
  refine cl rfl rfl rfl (s_fixed' (size := 2) (by omega)) rfl (fun v H1 L1 hle hR => ?_)
  obtain ⟨rfl, a35, c35, N35, rfl, rfl, h35⟩ := hR
  have q35 := h35.1
  rw [fixed_length] at q35 ⊢
  refine ap (news := bytesOf (fixed (-1) 2)) Tryz.underlying24 I5 rfl rfl r25 (fun _ => (.tail (.tail (.tail .head)))) (src_row Tryz.underlying24 q35 .head) (by omega) (by unfold maxLen; omega) rfl (fun a36 c36 N36 r36 z36 => ?_)
  rw [← bytesOf_append] at r36
  refine asg rfl rfl ?_
  refine nl ?_
  refine sq ?_
  refine sr ?_
  refine mv rfl rfl ?_
  refine nl ?_
  refine cbU rfl (fun h37 => ?_) (fun h37 => ?_)
  ·
   refine rg ?_
   refine mv rfl rfl ?_
   refine bs' L24 rfl rfl rfl rfl (fun b_2 => ?_)
   refine ap (news := bytesOf [0]) Tryz.underlying24 I5 rfl rfl r36 (fun _ => (.tail (.tail (.tail (.tail .head))))) (src_says Tryz.underlying24 rfl (fun _ => Says.own .head) (bytesOf_one [0])) (by omega) (by unfold maxLen; omega) rfl (fun a40 c40 N40 r40 z40 => ?_)
   rw [← bytesOf_append] at r40
   refine asg rfl rfl ?_
   refine nl ?_
   refine sr ?_
   refine mv rfl rfl ?_
   refine mv rfl rfl ?_
   refine ap (news := bytesOf body) Tryz.underlying24 I5 rfl rfl r40 (fun _ => (.tail (.tail (.tail (.tail .head))))) (src_bytes Tryz.underlying24 hD rfl) (by omega) (by unfold maxLen; omega) rfl (fun a43 c43 N43 r43 z43 => ?_)
   rw [← bytesOf_append] at r43
   refine asg rfl rfl ?_
   refine nl ?_
   refine sr ?_
   refine mv rfl rfl ?_
   refine ls Tryz.runUnderlying24 rfl rfl ?_
   refine cl rfl rfl rfl (s_fixed' (size := 4) (by omega)) rfl (fun v H1 L1 hle hR => ?_)
   obtain ⟨rfl, a46, c46, N46, rfl, rfl, h46⟩ := hR
   have q46 := h46.1
   rw [fixed_length] at q46 ⊢
   refine mv rfl rfl ?_
   refine ap (news := bytesOf ((((((fixed key 2) ++ (fixed ver 2)) ++ (fixed num 4)) ++ (fixed (-1) 2)) ++ [0]) ++ body)) Tryz.underlying24 I5 rfl rfl q46 (fun _ => .head) (src_row Tryz.underlying24 r43 (.tail (.tail (.tail (.tail (.tail .head)))))) (by omega) (by unfold maxLen; omega) rfl (fun a48 c48 N48 r48 z48 => ?_)
   rw [← bytesOf_append] at r48
   refine asg rfl rfl ?_
   refine nl ?_
   refine drW (.tail .head) ?_
   refine drW (.tail .head) ?_
   refine drW (.tail .head) ?_
   refine drW (.tail .head) ?_
   refine drW (.tail .head) ?_
   exact rT rfl rfl ler (fun _ _ h => h) (OutB.of r48 (by unfold frameB frameIn idB; simp only [h26, h37, if_true, Bool.false_eq_true, if_false, List.length_append, List.append_assoc, List.append_nil, List.nil_append, List.length_nil, List.length_cons, fixed_length]; congr 2; omega))
  ·
   refine skt ?_
   refine sr ?_
   refine mv rfl rfl ?_
   refine mv rfl rfl ?_
   refine ap (news := bytesOf body) Tryz.underlying24 I5 rfl rfl r36 (fun _ => (.tail (.tail (.tail .head)))) (src_bytes Tryz.underlying24 hD rfl) (by omega) (by unfold maxLen; omega) rfl (fun a43 c43 N43 r43 z43 => ?_)
   rw [← bytesOf_append] at r43
   refine asg rfl rfl ?_
   refine nl ?_
   refine sr ?_
   refine mv rfl rfl ?_
   refine ls Tryz.runUnderlying24 rfl rfl ?_
   refine cl rfl rfl rfl (s_fixed' (size := 4) (by omega)) rfl (fun v H1 L1 hle hR => ?_)
   obtain ⟨rfl, a46, c46, N46, rfl, rfl, h46⟩ := hR
   have q46 := h46.1
   rw [fixed_length] at q46 ⊢
   refine mv rfl rfl ?_
   refine ap (news := bytesOf (((((fixed key 2) ++ (fixed ver 2)) ++ (fixed num 4)) ++ (fixed (-1) 2)) ++ body)) Tryz.underlying24 I5 rfl rfl q46 (fun _ => .head) (src_row Tryz.underlying24 r43 (.tail (.tail (.tail (.tail .head))))) (by omega) (by unfold maxLen; omega) rfl (fun a48 c48 N48 r48 z48 => ?_)
   rw [← bytesOf_append] at r48
   refine asg rfl rfl ?_
   refine nl ?_
   refine drW (.tail .head) ?_
   refine drW (.tail .head) ?_
   refine drW (.tail .head) ?_
   refine drW (.tail .head) ?_
   exact rT rfl rfl ler (fun _ _ h => h) (OutB.of r48 (by unfold frameB frameIn idB; simp only [h26, h37, if_true, Bool.false_eq_true, if_false, List.length_append, List.append_assoc, List.append_nil, List.nil_append, List.length_nil, List.length_cons, fixed_length]; congr 2; omega))
theorem s_flexible {H : Fz} {L : Own} {a : Option Addr} {c0 k : Nat} {m : Msg} {ver : Int} :
  Fn Tryz.prog 17 [.agg #[.slice a k c0, .int .i64 m.flex], .int .i64 ver] H L (fun r H' L' => H = H' ∧ L = L' ∧ r = .bool (m.flexible ver)) := by
 refine Fn.mk Tryz.call17 Tryz.func17 rfl Tryz.ntmps17 rfl ?_
 refine sr ?_
 refine bx rfl rfl rfl (fun b_1 => ?_)
 refine asg rfl rfl ?_
 refine nl ?_
 refine sr ?_
 refine fa0 F34_1 rfl rfl ?_
 refine ld (Says.own .head) Tryz.isAgg3 rfl (Nat.zero_add _).symm rfl rfl ?_
 refine ge rfl rfl rfl ?_
 refine mv rfl rfl ?_
 refine spl (t := 8) rfl (fun h8 => ?_) (fun h8 => ?_)
 ·
  refine gr rfl rfl ?_
  refine mv rfl rfl ?_
  refine gr rfl rfl ?_
  refine fa0 F34_1 rfl rfl ?_
  refine gr rfl rfl ?_
  refine ld (Says.own .head) Tryz.isAgg3 rfl (Nat.zero_add _).symm rfl rfl ?_
  refine gr rfl rfl ?_
  refine ge rfl rfl rfl ?_
  refine pkT rfl rfl rfl rfl ?_
  refine asg rfl rfl ?_
  refine nl ?_
  refine drW .head ?_
  exact rT rfl rfl ler (fun _ _ h => h) ⟨rfl, rfl, by unfold Msg.flexible; simp [h8]⟩
 ·
  refine gs rfl rfl rfl rfl ?_
  refine gs rfl rfl rfl rfl ?_
  refine gs rfl rfl rfl rfl ?_
  refine gs rfl rfl rfl rfl ?_
  refine pkF rfl rfl rfl rfl ?_
  refine asg rfl rfl ?_
  refine nl ?_
  refine drW .head ?_
  exact rT rfl rfl ler (fun _ _ h => h) ⟨rfl, rfl, by unfold Msg.flexible; simp [h8]⟩
theorem s_fits4 {H : Fz} {L : Own} {hs : Bool} {x : List UInt8} :
  Fn Tryz.prog 8 [.agg #[.bool hs, .string ⟨x.toArray⟩]] H L (fun v H' L' => H = H' ∧ L = L' ∧ ∃ b, v = .bool b) := by
 refine Fn.mk Tryz.call8 Tryz.func8 rfl Tryz.ntmps8 rfl ?_
 refine sr ?_
 refine bx rfl rfl rfl (fun b_1 => ?_)
 refine asg rfl rfl ?_
 refine nl ?_
 refine sq ?_
 refine sr ?_
 refine fa0 F23_1 rfl rfl ?_
 refine ld (Says.own .head) Tryz.isAgg9 rfl (Nat.zero_add _).symm rfl rfl ?_
 refine lt' Tryz.runUnderlying9 rfl rfl ?_
 refine gt rfl rfl rfl ?_
 refine nl ?_
 refine cd rfl (fun h6 => ?_) (fun h6 => ?_)
 ·
  refine sr ?_
  refine asg rfl rfl ?_
  refine nl ?_
  refine drW .head ?_
  exact rT rfl rfl ler (fun _ _ h => h) ⟨rfl, rfl, _, rfl⟩
 ·
  refine skt ?_
  refine sr ?_
  refine asg rfl rfl ?_
  refine nl ?_
  refine drW .head ?_
  exact rT rfl rfl ler (fun _ _ h => h) ⟨rfl, rfl, _, rfl⟩
theorem rf_clo {H : Fz} {L : Own} {a idb : Nat} {c : Value} :
  Fn Tryz.prog 103 [.pointer (some ⟨a, 0, none⟩), .pointer (some ⟨idb, 0, none⟩)] H ([(a, .cells [c].toArray 135 (0, 0))] :: L) (fun _ H' L' => H = H' ∧ L' = [(a, .cells [.pointer (some ⟨idb, 0, none⟩)].toArray 135 (0, 0))] :: L) := by
 refine Fn.mk Tryz.call103 Tryz.func103 rfl Tryz.ntmps103 rfl ?_
 refine rg ?_
 refine mv rfl rfl ?_
 refine nc rfl rfl ?_
 refine fa0 F135_0 rfl rfl ?_
 refine st Tryz.sizeOf98 rfl rfl rfl rfl .head ?_
 refine nN ?_
 exact fun _ _ hA hw => rn rfl ler ⟨rfl, rfl⟩ hA hw
theorem rf_apply {H : Fz} {L : Own} {a idb : Nat} {c : Value} :
  Fn Tryz.prog 221 [.agg #[.func (.func 103) #[] #[.pointer (some ⟨idb, 0, none⟩)]], .pointer (some ⟨a, 0, none⟩)] H ([(a, .cells [c].toArray 135 (0, 0))] :: L) (fun _ H' L' => H = H' ∧ L' = [(a, .cells [.pointer (some ⟨idb, 0, none⟩)].toArray 135 (0, 0))] :: L) := by
 refine Fn.mk Tryz.call221 Tryz.func221 rfl Tryz.ntmps221 rfl ?_
 refine sr ?_
 refine bx rfl rfl rfl (fun b_1 => ?_)
 refine nl ?_
 refine rg ?_
 refine fa0 F138_0 rfl rfl ?_
 refine ld (Says.own .head) Tryz.isAgg136 rfl (Nat.zero_add _).symm rfl rfl ?_
 refine mv rfl rfl ?_
 refine tf (.tail .head) ?_
 refine cl rfl rfl rfl rf_clo rfl (fun v_ H1 L1 hle hR => ?_)
 obtain ⟨rfl, rfl⟩ := hR
 refine nN ?_
 refine drN (.tail .head) ?_
 exact fun _ _ hA hw => rn rfl ler ⟨rfl, rfl⟩ hA hw
theorem rf_id {H : Fz} {L : Own} {x : List UInt8} :
  Fn Tryz.prog 72 [.string ⟨x.toArray⟩] H L (fun r H' L' => H = H' ∧ ∃ idb, r = .iface 138 (.agg #[.func (.func 103) #[] #[.pointer (some ⟨idb, 0, none⟩)]]) ∧ L' = [(idb, .cells [.string ⟨x.toArray⟩].toArray 9 (0, 0))] :: L) := by
 refine Fn.mk Tryz.call72 Tryz.func72 rfl Tryz.ntmps72 rfl ?_
 refine sr ?_
 refine bx rfl rfl rfl (fun b_1 => ?_)
 refine asg rfl rfl ?_
 refine nl ?_
 refine sr ?_
 refine mkf rfl rfl ?_
 refine bd' S138 rfl rfl rfl ?_
 refine mkiS Tryz.underlying138 rfl rfl ?_
 refine asg rfl rfl ?_
 refine nl ?_
 exact rT rfl rfl ler (fun _ _ h => h) ⟨rfl, _, rfl, rfl⟩
theorem rf_new0 {H : Fz} {L : Own} :
  Fn Tryz.prog 71 [.slice none 0 0] H (L) (fun r H' L' => ∃ b, r = .pointer (some ⟨b, 0, none⟩) ∧ L' = [(b, .cells [.pointer none].toArray 135 (0, 0))] :: L) := by
 refine Fn.mk Tryz.call71 Tryz.func71 rfl Tryz.ntmps71 rfl ?_
 refine sr ?_
 refine asg rfl rfl ?_
 refine nl ?_
 refine sr ?_
 refine al Tryz.zeroValue135 rfl rfl (fun b_1 => ?_)
 refine asg rfl rfl ?_
 refine nl ?_
 refine sq ?_
 refine sr ?_
 refine mv rfl rfl ?_
 refine ls Tryz.runUnderlying133 rfl rfl ?_
 refine mv rfl rfl ?_
 refine nl ?_
 refine fr 0 (fun k l' H' L' => [(2, .pointer none), (3, .pointer (some ⟨b_1, 0, none⟩)), (7, .slice none 0 0), (8, .int .i64 ((0 : Nat) : Int))] = l' ∧ H = H' ∧ [(b_1, .cells [.pointer none].toArray 135 (0, 0))] :: L = L') [(2, .pointer none), (3, .pointer (some ⟨b_1, 0, none⟩)), (7, .slice none 0 0), (8, .int .i64 ((0 : Nat) : Int))] (fun k l' H' L' h => ?_) (by omega) rfl (.of ⟨rfl, rfl, rfl, rfl, trivial⟩) ⟨rfl, rfl, rfl⟩ rfl rfl rfl rfl rfl (fun k l' H' L' hk le_ hI => absurd hk (by omega)) (fun l' H' L' le_ hI => ?_)
 · obtain ⟨rfl, _⟩ := h; exact ⟨rfl, rfl, rfl, rfl⟩
 obtain ⟨rfl, rfl, rfl⟩ := hI
 refine toWp ?_
 refine sr ?_
 refine mv rfl rfl ?_
 refine asg rfl rfl ?_
 refine nl ?_
 exact rT rfl rfl ler (fun _ _ h => h) ⟨_, rfl, rfl⟩
theorem rf_new1 {H : Fz} {L : Own} {g idb : Nat} :
  Fn Tryz.prog 71 [.slice (some ⟨g, 0, none⟩) 1 1] H ([(g, .cells [.iface 138 (.agg #[.func (.func 103) #[] #[.pointer (some ⟨idb, 0, none⟩)]])].toArray 92 (0, 0))] :: L) (fun r H' L' => ∃ b, r = .pointer (some ⟨b, 0, none⟩) ∧ L' = [(b, .cells [.pointer (some ⟨idb, 0, none⟩)].toArray 135 (0, 0))] :: [(g, .cells [.iface 138 (.agg #[.func (.func 103) #[] #[.pointer (some ⟨idb, 0, none⟩)]])].toArray 92 (0, 0))] :: L) := by
 refine Fn.mk Tryz.call71 Tryz.func71 rfl Tryz.ntmps71 rfl ?_
 refine sr ?_
 refine asg rfl rfl ?_
 refine nl ?_
 refine sr ?_
 refine al Tryz.zeroValue135 rfl rfl (fun b_1 => ?_)
 refine asg rfl rfl ?_
 refine nl ?_
 refine sq ?_
 refine sr ?_
 refine mv rfl rfl ?_
 refine ls Tryz.runUnderlying133 rfl rfl ?_
 refine mv rfl rfl ?_
 refine nl ?_
 refine fr (1) (fun k l' H' L' => ∃ (pk : Option Addr), [(2, .pointer none), (3, .pointer (some ⟨b_1, 0, none⟩)), (7, .slice (some ⟨g, 0, none⟩) 1 1), (8, .int .i64 ((1 : Nat) : Int))] = l' ∧ [(b_1, .cells [.pointer pk].toArray 135 (0, 0))] :: [(g, .cells [.iface 138 (.agg #[.func (.func 103) #[] #[.pointer (some ⟨idb, 0, none⟩)]])].toArray 92 (0, 0))] :: L = L' ∧ (0 < k → pk = (some ⟨idb, 0, none⟩ : Option Addr))) [(2, .pointer none), (3, .pointer (some ⟨b_1, 0, none⟩)), (7, .slice (some ⟨g, 0, none⟩) 1 1), (8, .int .i64 ((1 : Nat) : Int))] (fun k l' H' L' h => ?_) (by omega) rfl (.of ⟨rfl, rfl, rfl, rfl, trivial⟩) ⟨none, rfl, rfl, (fun h => absurd h (by omega))⟩ rfl rfl rfl rfl rfl (fun k l' H' L' hk le_2 hI => ?_) (fun l' H' L' le_3 hI => ?_)
 · obtain ⟨pk, rfl, _⟩ := h; exact ⟨rfl, rfl, rfl, rfl⟩
 ·
  obtain ⟨pk, rfl, rfl, pk0⟩ := hI
  obtain rfl : k = 0 := by omega
  refine sr ?_
  refine ix Tryz.runUnderlying133 Tryz.sizeOf92 rfl rfl rfl hk rfl ?_
  refine ld (Says.own (.tail .head)) Tryz.isAgg92 rfl (Nat.zero_add _).symm rfl rfl ?_
  refine asg rfl rfl ?_
  refine nl ?_
  refine rg ?_
  refine mv rfl rfl ?_
  refine mv rfl rfl ?_
  refine ivv rfl rfl rf_apply (fun w => by kernel_rfl) rfl (fun v_ H1 L1 hle hR => ?_)
  obtain ⟨rfl, rfl⟩ := hR
  refine nN ?_
  refine Nb ?_
  refine fun a_ w_ hA hw => ⟨_, _, _, hA.sub ?_, le_2, hw, _, rfl, (some ⟨idb, 0, none⟩ : Option Addr), rfl, rfl, (fun _ => rfl)⟩
  exact (.of ⟨rfl, rfl, rfl, rfl, rfl, trivial⟩)
 ·
  obtain ⟨pk, rfl, rfl, pk0⟩ := hI
  refine toWp ?_
  obtain rfl := pk0 (by omega)
  refine sr ?_
  refine mv rfl rfl ?_
  refine asg rfl rfl ?_
  refine nl ?_
  exact rT rfl rfl le_3 (fun _ _ h => h) ⟨_, rfl, rfl⟩
theorem k_AppendUint32I {H : Fz} {L : Own} {g cap : Nat} {cur : Array Value} {u : Int} (hcs : cur.size = cap) (h4 : 4 ≤ cap) :
  Fn Tryz.prog 127 [.slice (some ⟨g, 0, none⟩) 0 cap, .int .u32 u] H ([(g, .cells cur 5 (0, 0))] :: L) (fun _ H' L' => H = H' ∧ L' = [(g, .cells (bytesOf (fixed u 4) ++ cur.toList.drop 4).toArray 5 (0, 0))] :: L) := by
 rw [be_4]
 refine Fn.mk Tryz.call127 Tryz.func127 rfl Tryz.ntmps127 rfl ?_
 refine sr ?_
 refine asg rfl rfl ?_
 refine nl ?_
 refine sr ?_
 refine mv rfl rfl ?_
 refine mv rfl rfl ?_
 refine sh rfl rfl (by decide) (shr_eq (m := 16777216) rfl (by decide)) rfl ?_
 refine cv Tryz.runUnderlying67 Tryz.runUnderlying5 rfl (wrap8 _) rfl ?_
 refine mv rfl rfl ?_
 refine sh rfl rfl (by decide) (shr_eq (m := 65536) rfl (by decide)) rfl ?_
 refine cv Tryz.runUnderlying67 Tryz.runUnderlying5 rfl (wrap8 _) rfl ?_
 refine mv rfl rfl ?_
 refine sh rfl rfl (by decide) (shr_eq (m := 256) rfl (by decide)) rfl ?_
 refine cv Tryz.runUnderlying67 Tryz.runUnderlying5 rfl (wrap8 _) rfl ?_
 refine mv rfl rfl ?_
 refine cv Tryz.runUnderlying67 Tryz.runUnderlying5 rfl (wrap8 _) rfl ?_
 refine bs' L24 rfl rfl rfl rfl (fun b_1 => ?_)
 refine apI (m := 0) (k := 4) (news := bytesOf [byte (u / 16777216), byte (u / 65536), byte (u / 256), byte u]) Tryz.underlying24 I5 rfl rfl (fun _ => (.tail .head)) hcs (by omega) (src_says Tryz.underlying24 rfl (fun _ => Says.own .head) (bytesOf_one _)) rfl ?_
 refine asg rfl rfl ?_
 refine nl ?_
 refine drW .head ?_
 exact rT rfl rfl ler (fun _ _ h => h) ⟨rfl, rfl⟩
theorem k_AppendInt32I {H : Fz} {L : Own} {g cap : Nat} {cur : Array Value} {u : Int} (hcs : cur.size = cap) (h4 : 4 ≤ cap) :
  Fn Tryz.prog 105 [.slice (some ⟨g, 0, none⟩) 0 cap, .int .i32 u] H ([(g, .cells cur 5 (0, 0))] :: L) (fun _ H' L' => H = H' ∧ L' = [(g, .cells (bytesOf (fixed u 4) ++ cur.toList.drop 4).toArray 5 (0, 0))] :: L) := by
 refine Fn.mk Tryz.call105 Tryz.func105 rfl Tryz.ntmps105 rfl ?_
 refine sr ?_
 refine asg rfl rfl ?_
 refine nl ?_
 refine sr ?_
 refine mv rfl rfl ?_
 refine mv rfl rfl ?_
 refine cv Tryz.runUnderlying21 Tryz.runUnderlying67 rfl rfl rfl ?_
 refine cl rfl rfl rfl (k_AppendUint32I hcs h4) rfl (fun v_ H1 L1 hle hR => ?_)
 obtain ⟨rfl, rfl⟩ := hR
 refine asg rfl rfl ?_
 refine nl ?_
 exact rT rfl rfl ler (fun _ _ h => h) ⟨rfl, by rw [fixed_u32]⟩
end Go.Sx
