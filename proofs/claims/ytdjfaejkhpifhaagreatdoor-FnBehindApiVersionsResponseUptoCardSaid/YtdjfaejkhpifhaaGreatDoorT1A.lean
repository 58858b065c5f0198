import Derived.Test.YtdjfaejkhpifhaaGreatDoorSxTab
import Derived.Test.YtdjfaejkhpifhaaGreatDoorSA
import Derived.Test.YtdjfaejkhpifhaaGreatDoorLibF
import Derived.Test.YtdjfaejkhpifhaaGreatDoorT1
import Derived.Test.YtdjfaejkhpifhaaGreatDoorKB
import Derived.KernelRfl
set_option linter.unusedVariables false
set_option linter.unusedSimpArgs false
set_option maxRecDepth 100000
set_option maxHeartbeats 20000000
namespace Go.Sx
open Go.Proofs
theorem t_len {H : Fz} {L : Own} {b o j : Nat} {cs : List Value} {m : Option Nat} {kvs : List KV} (hb : H.at b o cs) (hj : nth cs j = some (.map m)) (hm : MapF H m kvs) :
  Fn Tryz.prog 52 [.pointer (some ⟨b, o + j, none⟩)] H L (fun v H' L' => H = H' ∧ L = L' ∧ v = .int .i64 (kvs.length : Int)) := by
 refine Fn.mk Tryz.call52 Tryz.func52 rfl Tryz.ntmps52 rfl ?_
 refine sr ?_
 refine asg rfl rfl ?_
 refine nl ?_
 refine sr ?_
 refine mv rfl rfl ?_
 refine nc rfl rfl ?_
 refine fa F63_0 rfl rfl ?_
 refine ld (Says.fz hb) Tryz.isAgg61 rfl rfl hj rfl ?_
 refine lmn Tryz.underlying61 rfl hm rfl ?_
 refine asg rfl rfl ?_
 refine nl ?_
 exact rT rfl rfl (Fz.le.refl _) (fun _ _ h => h) ⟨rfl, rfl, rfl⟩
theorem t_lenU {H : Fz} {L : Own} {b o j : Nat} {cs : List Value} {m : Option Nat} {us : List (Int × List UInt8)} (hb : H.at b o cs) (hj : nth cs j = some (.map m)) (hm : KvAt H m us) :
  Fn Tryz.prog 52 [.pointer (some ⟨b, o + j, none⟩)] H L (fun v H' L' => H = H' ∧ L = L' ∧ v = .int .i64 (us.length : Int)) := by
 obtain ⟨kvs, h1, h2, _⟩ := hm
 rw [← h2]; exact t_len hb hj h1
theorem k_Len32 {H : Fz} {L : Own} {n : Nat} (hn : n < 4294967296) : Fn Tryz.prog 96 [.int .u32 (n : Int)] H L (fun v H' L' => H = H' ∧ L = L' ∧ v = .int .i64 (Lib.bitLen n : Int)) :=
 ⟨Tryz.call96, fun w hw => (Any.bits_Len32 (P := Tryz.prog) (ρ := sRen.viaGgs) { LaysGg.n13.bits (P := Tryz.prog) (ρ := sRen) { sLays with } with } (n : Int) w (by omega) (by omega)).mono (by
  rintro e w' ⟨rfl, rfl⟩
  exact ⟨_, H, L, rfl, Fz.le.refl _, hw, rfl, rfl, by rw [Int.toNat_natCast]⟩)⟩
theorem k_UvarintLen {H : Fz} {L : Own} {n : Nat} (hn : n < 4294967296) : Fn Tryz.prog 84 [.int .u32 (n : Int)] H L (fun v H' L' => H = H' ∧ L = L' ∧ v = .int .i64 (uvl n : Int)) := by
 refine Fn.mk Tryz.call84 Tryz.func84 rfl Tryz.ntmps84 rfl ?_
 refine sr ?_
 refine asg rfl rfl ?_
 refine nl ?_
 refine sr ?_
 refine mv rfl rfl ?_
 refine cl rfl rfl rfl (k_Len32 hn) rfl (fun v H1 L1 hle hR => ?_)
 obtain ⟨rfl, rfl, rfl⟩ := hR
 obtain ⟨hb1, hb2⟩ := uvT_bitLen hn
 refine cv Tryz.runUnderlying3 Tryz.runUnderlying5 rfl ((wrap8 _).trans (byte_small (show Lib.bitLen n < 256 by omega))) rfl ?_
 refine ixs (j := Lib.bitLen n) (b := UInt8.ofNat (uvT (Lib.bitLen n))) Tryz.underlying9 rfl rfl rfl ?_ rfl ?_
 · revert hb1; generalize Lib.bitLen n = b; revert b; decide +kernel
 rw [hb2]
 refine cv Tryz.runUnderlying5 Tryz.runUnderlying3 rfl (w64 (by omega) (by have := UInt8.toNat_lt (UInt8.ofNat (uvl n)); omega)) rfl ?_
 refine asg rfl rfl ?_
 refine nl ?_
 exact rT rfl rfl ler (fun _ _ h => h) ⟨rfl, rfl, by have := uvl_le n; simp; omega⟩
theorem k_AppendUvarint {H : Fz} {L : Own} {a : Option Addr} {cap : Nat} {X : List UInt8} {N : Chunk} {n : Nat} (hn : n < 4294967296) (hr : Row 5 1 a X.length cap (bytesOf X) N) (hb : X.length + (uvar n).length ≤ 4294967295) :
  Fn Tryz.prog 51 [.slice a X.length cap, .int .u32 (n : Int)] H (N :: L) (OutK L (X ++ uvar n) H) := by
 have hl := uvar_length hn
 refine Fn.mk Tryz.call51 Tryz.func51 rfl Tryz.ntmps51 rfl ?_
 refine sr ?_
 refine asg rfl rfl ?_
 refine nl ?_
 refine sq ?_
 refine sr ?_
 refine mv rfl rfl ?_
 refine cl rfl rfl rfl (k_UvarintLen hn) rfl (fun v H1 L1 hle hR => ?_)
 obtain ⟨rfl, rfl, rfl⟩ := hR
 refine nl ?_
 refine bl ?_
 refine sr ?_
 refine eq' rfl rfl rfl ?_
 refine asg rfl rfl ?_
 refine nl ?_
 refine cdU rfl (fun h7 => ?_) (fun h7 => ?_)
 ·
  have e := uvar5 (uvl_5 h7) hn
  refine sr ?_
  refine mv rfl rfl ?_
  refine mv rfl rfl ?_
  refine an rfl rfl (and127_u32 _) rfl ?_
  refine or' rfl rfl (or128_u32 (Nat.mod_lt _ (by omega))) rfl ?_
  refine cv Tryz.runUnderlying55 Tryz.runUnderlying5 rfl (wrap8 _) rfl ?_
  refine mv rfl rfl ?_
  refine sh rfl rfl (by decide) (shrN (q := 128) rfl) rfl ?_
  refine an rfl rfl (and127_u32 _) rfl ?_
  refine or' rfl rfl (or128_u32 (Nat.mod_lt _ (by omega))) rfl ?_
  refine cv Tryz.runUnderlying55 Tryz.runUnderlying5 rfl (wrap8 _) rfl ?_
  refine mv rfl rfl ?_
  refine sh rfl rfl (by decide) (shrN (q := 16384) rfl) rfl ?_
  refine an rfl rfl (and127_u32 _) rfl ?_
  refine or' rfl rfl (or128_u32 (Nat.mod_lt _ (by omega))) rfl ?_
  refine cv Tryz.runUnderlying55 Tryz.runUnderlying5 rfl (wrap8 _) rfl ?_
  refine mv rfl rfl ?_
  refine sh rfl rfl (by decide) (shrN (q := 2097152) rfl) rfl ?_
  refine an rfl rfl (and127_u32 _) rfl ?_
  refine or' rfl rfl (or128_u32 (Nat.mod_lt _ (by omega))) rfl ?_
  refine cv Tryz.runUnderlying55 Tryz.runUnderlying5 rfl (wrap8 _) rfl ?_
  refine mv rfl rfl ?_
  refine sh rfl rfl (by decide) (shrN (q := 268435456) rfl) rfl ?_
  refine cv Tryz.runUnderlying55 Tryz.runUnderlying5 rfl (wrap8 _) rfl ?_
  refine bs' L22 rfl rfl rfl rfl (fun b_1 => ?_)
  refine ap (news := bytesOf ([byte ((n % 128 + 128 : Nat) : Int), byte ((n / 128 % 128 + 128 : Nat) : Int), byte ((n / 16384 % 128 + 128 : Nat) : Int), byte ((n / 2097152 % 128 + 128 : Nat) : Int), byte ((n / 268435456 : Nat) : Int)])) Tryz.underlying22 I5 rfl rfl hr (fun _ => (.tail .head)) (src_says Tryz.underlying22 rfl (fun _ => Says.own .head) (bytesOf_one _)) (by rw [e] at hb; simp only [List.length_cons, List.length_nil] at hb; omega) (by rw [e] at hb; simp only [List.length_cons, List.length_nil] at hb; unfold maxLen; omega) rfl (fun a33 c33 N33 r33 z33 => ?_)
  rw [← bytesOf_append, ← e] at r33
  refine asg rfl rfl ?_
  refine nl ?_
  refine drW .head ?_
  exact rT rfl rfl ler (fun _ _ h => h) ⟨rfl, OutB.of r33 rfl⟩
 ·
  refine sr ?_
  refine eq' rfl rfl rfl ?_
  refine asg rfl rfl ?_
  refine nl ?_
  refine cdU rfl (fun h34 => ?_) (fun h34 => ?_)
  ·
   have e := uvar4 (uvl_4 h34).1 (uvl_4 h34).2
   refine sr ?_
   refine mv rfl rfl ?_
   refine mv rfl rfl ?_
   refine an rfl rfl (and127_u32 _) rfl ?_
   refine or' rfl rfl (or128_u32 (Nat.mod_lt _ (by omega))) rfl ?_
   refine cv Tryz.runUnderlying55 Tryz.runUnderlying5 rfl (wrap8 _) rfl ?_
   refine mv rfl rfl ?_
   refine sh rfl rfl (by decide) (shrN (q := 128) rfl) rfl ?_
   refine an rfl rfl (and127_u32 _) rfl ?_
   refine or' rfl rfl (or128_u32 (Nat.mod_lt _ (by omega))) rfl ?_
   refine cv Tryz.runUnderlying55 Tryz.runUnderlying5 rfl (wrap8 _) rfl ?_
   refine mv rfl rfl ?_
   refine sh rfl rfl (by decide) (shrN (q := 16384) rfl) rfl ?_
   refine an rfl rfl (and127_u32 _) rfl ?_
   refine or' rfl rfl (or128_u32 (Nat.mod_lt _ (by omega))) rfl ?_
   refine cv Tryz.runUnderlying55 Tryz.runUnderlying5 rfl (wrap8 _) rfl ?_
   refine mv rfl rfl ?_
   refine sh rfl rfl (by decide) (shrN (q := 2097152) rfl) rfl ?_
   refine cv Tryz.runUnderlying55 Tryz.runUnderlying5 rfl (wrap8 _) rfl ?_
   refine bs' L22 rfl rfl rfl rfl (fun b_2 => ?_)
   refine ap (news := bytesOf ([byte ((n % 128 + 128 : Nat) : Int), byte ((n / 128 % 128 + 128 : Nat) : Int), byte ((n / 16384 % 128 + 128 : Nat) : Int), byte ((n / 2097152 : Nat) : Int)])) Tryz.underlying22 I5 rfl rfl hr (fun _ => (.tail .head)) (src_says Tryz.underlying22 rfl (fun _ => Says.own .head) (bytesOf_one _)) (by rw [e] at hb; simp only [List.length_cons, List.length_nil] at hb; omega) (by rw [e] at hb; simp only [List.length_cons, List.length_nil] at hb; unfold maxLen; omega) rfl (fun a55 c55 N55 r55 z55 => ?_)
   rw [← bytesOf_append, ← e] at r55
   refine asg rfl rfl ?_
   refine nl ?_
   refine drW .head ?_
   exact rT rfl rfl ler (fun _ _ h => h) ⟨rfl, OutB.of r55 rfl⟩
  ·
   refine sr ?_
   refine eq' rfl rfl rfl ?_
   refine asg rfl rfl ?_
   refine nl ?_
   refine cdU rfl (fun h56 => ?_) (fun h56 => ?_)
   ·
    have e := uvar3 (uvl_3 h56).1 (uvl_3 h56).2
    refine sr ?_
    refine mv rfl rfl ?_
    refine mv rfl rfl ?_
    refine an rfl rfl (and127_u32 _) rfl ?_
    refine or' rfl rfl (or128_u32 (Nat.mod_lt _ (by omega))) rfl ?_
    refine cv Tryz.runUnderlying55 Tryz.runUnderlying5 rfl (wrap8 _) rfl ?_
    refine mv rfl rfl ?_
    refine sh rfl rfl (by decide) (shrN (q := 128) rfl) rfl ?_
    refine an rfl rfl (and127_u32 _) rfl ?_
    refine or' rfl rfl (or128_u32 (Nat.mod_lt _ (by omega))) rfl ?_
    refine cv Tryz.runUnderlying55 Tryz.runUnderlying5 rfl (wrap8 _) rfl ?_
    refine mv rfl rfl ?_
    refine sh rfl rfl (by decide) (shrN (q := 16384) rfl) rfl ?_
    refine cv Tryz.runUnderlying55 Tryz.runUnderlying5 rfl (wrap8 _) rfl ?_
    refine bs' L22 rfl rfl rfl rfl (fun b_3 => ?_)
    refine ap (news := bytesOf ([byte ((n % 128 + 128 : Nat) : Int), byte ((n / 128 % 128 + 128 : Nat) : Int), byte ((n / 16384 : Nat) : Int)])) Tryz.underlying22 I5 rfl rfl hr (fun _ => (.tail .head)) (src_says Tryz.underlying22 rfl (fun _ => Says.own .head) (bytesOf_one _)) (by rw [e] at hb; simp only [List.length_cons, List.length_nil] at hb; omega) (by rw [e] at hb; simp only [List.length_cons, List.length_nil] at hb; unfold maxLen; omega) rfl (fun a72 c72 N72 r72 z72 => ?_)
    rw [← bytesOf_append, ← e] at r72
    refine asg rfl rfl ?_
    refine nl ?_
    refine drW .head ?_
    exact rT rfl rfl ler (fun _ _ h => h) ⟨rfl, OutB.of r72 rfl⟩
   ·
    refine sr ?_
    refine eq' rfl rfl rfl ?_
    refine asg rfl rfl ?_
    refine nl ?_
    refine cdU rfl (fun h73 => ?_) (fun h73 => ?_)
    ·
     have e := uvar2 (uvl_2 h73).1 (uvl_2 h73).2
     refine sr ?_
     refine mv rfl rfl ?_
     refine mv rfl rfl ?_
     refine an rfl rfl (and127_u32 _) rfl ?_
     refine or' rfl rfl (or128_u32 (Nat.mod_lt _ (by omega))) rfl ?_
     refine cv Tryz.runUnderlying55 Tryz.runUnderlying5 rfl (wrap8 _) rfl ?_
     refine mv rfl rfl ?_
     refine sh rfl rfl (by decide) (shrN (q := 128) rfl) rfl ?_
     refine cv Tryz.runUnderlying55 Tryz.runUnderlying5 rfl (wrap8 _) rfl ?_
     refine bs' L22 rfl rfl rfl rfl (fun b_4 => ?_)
     refine ap (news := bytesOf ([byte ((n % 128 + 128 : Nat) : Int), byte ((n / 128 : Nat) : Int)])) Tryz.underlying22 I5 rfl rfl hr (fun _ => (.tail .head)) (src_says Tryz.underlying22 rfl (fun _ => Says.own .head) (bytesOf_one _)) (by rw [e] at hb; simp only [List.length_cons, List.length_nil] at hb; omega) (by rw [e] at hb; simp only [List.length_cons, List.length_nil] at hb; unfold maxLen; omega) rfl (fun a84 c84 N84 r84 z84 => ?_)
     rw [← bytesOf_append, ← e] at r84
     refine asg rfl rfl ?_
     refine nl ?_
     refine drW .head ?_
     exact rT rfl rfl ler (fun _ _ h => h) ⟨rfl, OutB.of r84 rfl⟩
    ·
     refine sr ?_
     refine eq' rfl rfl rfl ?_
     refine asg rfl rfl ?_
     refine nl ?_
     refine cdU rfl (fun h85 => ?_) (fun h85 => ?_)
     ·
      have e := uvar1 (uvl_1 h85)
      refine sr ?_
      refine mv rfl rfl ?_
      refine mv rfl rfl ?_
      refine cv Tryz.runUnderlying55 Tryz.runUnderlying5 rfl (wrap8 _) rfl ?_
      refine bs' L22 rfl rfl rfl rfl (fun b_5 => ?_)
      refine ap (news := bytesOf ([byte ((n : Nat) : Int)])) Tryz.underlying22 I5 rfl rfl hr (fun _ => (.tail .head)) (src_says Tryz.underlying22 rfl (fun _ => Says.own .head) (bytesOf_one _)) (by rw [e] at hb; simp only [List.length_cons, List.length_nil] at hb; omega) (by rw [e] at hb; simp only [List.length_cons, List.length_nil] at hb; unfold maxLen; omega) rfl (fun a91 c91 N91 r91 z91 => ?_)
      rw [← bytesOf_append, ← e] at r91
      refine asg rfl rfl ?_
      refine nl ?_
      refine drW .head ?_
      exact rT rfl rfl ler (fun _ _ h => h) ⟨rfl, OutB.of r91 rfl⟩
     ·
      exfalso; have := uvl_le n; have := uvl_pos n; omega
theorem t_ae1 {H : Fz} {L : Own} {bx : Nat} {a va : Option Addr} {cap vc : Nat} {X s : List UInt8} {N : Chunk} {k : Nat} (hk : k < 4294967296) (hx : BytesAt H va vc s) (hr : Row 5 1 a X.length cap (bytesOf X) N) (hs : s.length < 4294967296) (hb : X.length + (tagU ((k : Int), s)).length ≤ 4294967295) :
  Fn Tryz.prog 86 [.int .u32 (k : Int), .slice va s.length vc, .pointer (some ⟨bx, 0, none⟩)] H ([(bx, .cells [.slice a X.length cap].toArray 22 (0, 0))] :: N :: L)
   (fun _ H' L' => H = H' ∧ ∃ a' cap' N', L' = [(bx, .cells [.slice a' (X ++ tagU ((k : Int), s)).length cap'].toArray 22 (0, 0))] :: N' :: L ∧ Row 5 1 a' (X ++ tagU ((k : Int), s)).length cap' (bytesOf (X ++ tagU ((k : Int), s))) N') := by
 have e0 : X ++ tagU ((k : Int), s) = X ++ uvar k ++ uvar s.length ++ s := by simp [tagU]
 rw [e0]
 simp only [tagU, List.length_append, Int.toNat_natCast] at hb
 refine Fn.mk Tryz.call86 Tryz.func86 rfl Tryz.ntmps86 rfl ?_
 refine sr ?_
 refine ld (Says.own .head) Tryz.isAgg22 rfl (Nat.zero_add _).symm rfl rfl ?_
 refine mv rfl rfl ?_
 refine tf (.tail .head) ?_
 refine cl rfl rfl rfl (k_AppendUvarint (n := k) hk hr (by first | omega | (simp only [List.length_append]; omega))) rfl (fun v H1 L1 hle hR => ?_)
 obtain ⟨rfl, a7, c7, N7, rfl, rfl, h7⟩ := hR
 refine st Tryz.sizeOf22 rfl rfl rfl rfl (.tail .head) ?_
 refine nl ?_
 refine sr ?_
 refine ld (Says.own (.tail .head)) Tryz.isAgg22 rfl (Nat.zero_add _).symm rfl rfl ?_
 refine mv rfl rfl ?_
 refine ls Tryz.runUnderlying22 rfl rfl ?_
 refine cv Tryz.runUnderlying3 Tryz.runUnderlying55 rfl (w32u (by omega) (by omega)) rfl ?_
 refine cl rfl rfl rfl (k_AppendUvarint (n := s.length) hs h7.1 (by first | omega | (simp only [List.length_append]; omega))) rfl (fun v H1 L1 hle hR => ?_)
 obtain ⟨rfl, a12, c12, N12, rfl, rfl, h12⟩ := hR
 refine st Tryz.sizeOf22 rfl rfl rfl rfl (.tail .head) ?_
 refine nl ?_
 refine rg ?_
 refine ld (Says.own (.tail .head)) Tryz.isAgg22 rfl (Nat.zero_add _).symm rfl rfl ?_
 refine mv rfl rfl ?_
 refine ap (news := bytesOf s) Tryz.underlying22 I5 rfl rfl h12.1 (fun _ => .head) (src_bytes Tryz.underlying22 hx rfl) (by simp only [List.length_append]; omega) (by simp only [List.length_append]; unfold maxLen; omega) rfl (fun a15 c15 N15 r15 z15 => ?_)
 rw [← bytesOf_append, ← List.length_append] at r15
 refine st Tryz.sizeOf22 rfl rfl rfl rfl (.tail .head) ?_
 refine nN ?_
 refine tfN (.tail .head) ?_
 exact fun _ _ hA hw => rn rfl ler ⟨rfl, a15, c15, N15, by rw [List.length_append (bs := s)], by rw [List.length_append (bs := s)]; rw [List.length_append (bs := s)] at r15; exact r15⟩ hA hw
theorem t_append_each {H : Fz} {L : Own} {b o j : Nat} {cs : List Value} {m : Option Nat} {us : List (Int × List UInt8)} {a : Option Addr} {cap : Nat} {X : List UInt8} {N : Chunk} (hb : H.at b o cs) (hj : nth cs j = some (.map m)) (hm : KvAt H m us) (hl : us.length ≤ 1000000) (hr : Row 5 1 a X.length cap (bytesOf X) N)
  (hs : ∀ p ∈ us, p.2.length < 4294967296) (hX : X.length + (us.flatMap tagU).length ≤ 4294967295) :
  Fn Tryz.prog 53 [.pointer (some ⟨b, o + j, none⟩), .slice a X.length cap] H (N :: L) (fun v H' L' => OutB 5 L (X ++ us.flatMap tagU) v L') := by
 obtain ⟨kvs, hM, hlen, hel⟩ := hm
 refine Fn.mk Tryz.call53 Tryz.func53 rfl Tryz.ntmps53 rfl ?_
 refine sr ?_
 refine bx rfl rfl rfl (fun b1 => ?_)
 refine asg rfl rfl ?_
 refine nl ?_
 refine sr ?_
 refine mv rfl rfl ?_
 refine mkf rfl rfl ?_
 refine mrgL ?_
 refine cl rfl rfl rfl (t_each (I := fun i H1 Y => ∃ a cap N, Y = [(b1, .cells [.slice a (X ++ (us.take i).flatMap tagU).length cap].toArray 22 (0, 0))] ++ N ∧ Row 5 1 a (X ++ (us.take i).flatMap tagU).length cap (bytesOf (X ++ (us.take i).flatMap tagU)) N) hb hj hM (by omega) (fun i H1 H2 Y _ h => h) ⟨a, cap, N, by simp, by simpa using hr⟩ ?_) rfl (fun v H1 L1 hle hR => ?_)
 ·
  intro i k v H1 Y L1 hi hle ⟨a, cap, N, hY, hr⟩
  subst hY
  obtain ⟨s, h1, ⟨va, vc, rfl, hx⟩, h2, h3⟩ := hel i k v hi
  obtain ⟨n, rfl⟩ : ∃ n : Nat, k = n := ⟨k.toNat, by omega⟩
  have hm1 := List.mem_of_getElem? h1
  have hsz := flatU_le h1
  refine Fn.flat (t_ae1 (L := L1) (bx := b1) (k := n) (by omega) (hx.mono hle) hr (hs _ hm1) (by rw [List.length_append]; omega)) (by simp) ?_
  rintro v H' L' ⟨rfl, a', cap', N', rfl, hr'⟩
  refine ⟨([(b1, .cells [.slice a' (X ++ (us.take i).flatMap tagU ++ tagU ((n : Int), s)).length cap'].toArray 22 (0, 0))] ++ N') :: L1, by simp, _, rfl, a', cap', N', ?_, ?_⟩
  · rw [flatU_take h1, List.append_assoc]
  · rw [flatU_take h1, ← List.append_assoc]; exact hr'
 ·
  obtain ⟨_, rfl, a1, c1, N1, rfl, hr1⟩ := hR
  rw [hlen, List.take_length] at hr1 ⊢
  refine splL ?_
  refine nl ?_
  refine sr ?_
  refine ld (Says.own .head) Tryz.isAgg22 rfl (Nat.zero_add _).symm rfl rfl ?_
  refine asg rfl rfl ?_
  refine nl ?_
  refine drW .head ?_
  exact rT rfl rfl hle (fun _ _ h => h) (OutB.of hr1 rfl)
end Go.Sx
