/- Part 16 of the proof of FnGjJoinKeys: the statement Rows.FnGjJoinKeysCardSaid; no further condition. -/
import Derived.Test.YtelonenjneonlaaGreatDoorK15
set_option linter.all false
namespace Go.Sx
open Go.RowKit Go.Proofs Js Go.Proofs.YtelonenjneonlaaGreatDoorW.PrintWords
theorem ret_enc {B : Nat} {w00 : World} {L' : List Bk} {b o : Nat} {vs xs : List Value} {r n : Nat} {K : List (Nat × Value)} {a : Act} {w : World} {fn : Func} {m : Int} (hF : Fr n ((4, .int .i64 m) :: K) a) (he : xs = u8s (enc r) ∧ m = ((enc r).length : Int) ∧ (enc r).length ≤ 4)
    (hM : Mem B w00 ((b, 5, setL vs o xs) :: L') w) (h : fn.results = #[.tmp 4]) (ho : o + 8 ≤ vs.length) :
    bodyPost Tryz.prog fn (Ret fun v w' => v = .int .i64 ((enc r).length : Int) ∧ Mem B w00 ((b, 5, vs.take o ++ u8s (enc r) ++ vs.drop (o + (enc r).length)) :: L') w') .ret a w := by
  obtain ⟨h1, h2, h3⟩ := he
  have hl : xs.length = (enc r).length := by rw [h1, u8s_length]
  refine ret1 hF h rfl ⟨_, rfl, by rw [h2], ?_⟩
  rw [setL_eq xs vs o (by omega), hl, h1] at hM
  exact hM
theorem enc_2 {r : Nat} (h1 : 128 ≤ r) (h2 : r ≤ 2047) : [Value.int .u8 ((192 + r / 64 : Nat) : Int), .int .u8 ((128 + r % 64 : Nat) : Int)] = u8s (enc r) ∧ (2 : Int) = ((enc r).length : Int) ∧ (enc r).length ≤ 4 := by
  have e : enc r = [(0xc0 + r / 64).toUInt8, (0x80 + r % 64).toUInt8] := by unfold enc; rw [if_neg (by omega), if_pos (by omega)]
  rw [e]
  refine ⟨?_, rfl, by simp⟩
  simp only [u8s, List.map_cons, List.map_nil]
  rw [byte_nat (by omega), byte_nat (by omega)]
theorem enc_3 {r : Nat} (h1 : 2047 < r) (h2 : (high r || low r) = false) (h3 : r ≤ 65535) : [Value.int .u8 ((224 + r / 4096 : Nat) : Int), .int .u8 ((128 + r / 64 % 64 : Nat) : Int), .int .u8 ((128 + r % 64 : Nat) : Int)] = u8s (enc r) ∧ (3 : Int) = ((enc r).length : Int) ∧ (enc r).length ≤ 4 := by
  have e : enc r = [(0xe0 + r / 4096).toUInt8, (0x80 + r / 64 % 64).toUInt8, (0x80 + r % 64).toUInt8] := by unfold enc; rw [if_neg (by omega), if_neg (by omega), h2, if_neg (by decide), if_pos (by omega)]
  rw [e]
  refine ⟨?_, rfl, by simp⟩
  simp only [u8s, List.map_cons, List.map_nil]
  rw [byte_nat (by omega), byte_nat (by omega), byte_nat (by omega)]
theorem enc_3a {r : Nat} (h1 : 2047 < r) (h2 : r < 55296) : [Value.int .u8 ((224 + r / 4096 : Nat) : Int), .int .u8 ((128 + r / 64 % 64 : Nat) : Int), .int .u8 ((128 + r % 64 : Nat) : Int)] = u8s (enc r) ∧ (3 : Int) = ((enc r).length : Int) ∧ (enc r).length ≤ 4 :=
  enc_3 h1 (by simp [high, low]; omega) (by omega)
theorem enc_3b {r : Nat} (h1 : 57343 < r) (h2 : r ≤ 65535) : [Value.int .u8 ((224 + r / 4096 : Nat) : Int), .int .u8 ((128 + r / 64 % 64 : Nat) : Int), .int .u8 ((128 + r % 64 : Nat) : Int)] = u8s (enc r) ∧ (3 : Int) = ((enc r).length : Int) ∧ (enc r).length ≤ 4 :=
  enc_3 (by omega) (by simp [high, low]; omega) h2
theorem enc_4 {r : Nat} (h1 : 65535 < r) (h2 : r ≤ 1114111) : [Value.int .u8 ((240 + r / 262144 : Nat) : Int), .int .u8 ((128 + r / 4096 % 64 : Nat) : Int), .int .u8 ((128 + r / 64 % 64 : Nat) : Int), .int .u8 ((128 + r % 64 : Nat) : Int)] = u8s (enc r) ∧ (4 : Int) = ((enc r).length : Int) ∧ (enc r).length ≤ 4 := by
  have e : enc r = [(0xf0 + r / 262144).toUInt8, (0x80 + r / 4096 % 64).toUInt8, (0x80 + r / 64 % 64).toUInt8, (0x80 + r % 64).toUInt8] := by
    unfold enc; rw [if_neg (by omega), if_neg (by omega), if_neg (by simp [high, low]; omega), if_neg (by omega)]
  rw [e]
  refine ⟨?_, rfl, by simp⟩
  simp only [u8s, List.map_cons, List.map_nil]
  rw [byte_nat (by omega), byte_nat (by omega), byte_nat (by omega), byte_nat (by omega)]
theorem enc_bad {r : Nat} (h1 : 55296 ≤ r) (h2 : r ≤ 57343) : [Value.int .u8 239, .int .u8 191, .int .u8 189] = u8s (enc r) ∧ (3 : Int) = ((enc r).length : Int) ∧ (enc r).length ≤ 4 := by
  have e : enc r = [0xef, 0xbf, 0xbd] := by unfold enc; rw [if_neg (by omega), if_neg (by omega), if_pos (by simp [high, low]; omega)]
  rw [e]
  exact ⟨rfl, rfl, by decide⟩
theorem encodeNon_walk {B : Nat} {w00 : World} {L' : List Bk} {b o c : Nat} {vs : List Value} (r : Nat) (w0 : World) (hM0 : Mem B w00 ((b, 5, vs) :: L') w0) (hr1 : 128 ≤ r) (hr2 : r ≤ 1114111) (ho : o + 8 ≤ vs.length) :
    Calls Tryz.prog 180 #[.slice (some ⟨b, o, none⟩) 8 c, .int .i32 (r : Int)] w0 (Ret fun v w' => v = .int .i64 ((enc r).length : Int) ∧ Mem B w00 ((b, 5, vs.take o ++ u8s (enc r) ++ vs.drop (o + (enc r).length)) :: L') w') := by
 have hM := hM0
 refine enter (l := [.slice (some ⟨b, o, none⟩) 8 c, .int .i32 (r : Int)]) 100 Tryz.func180 rfl rfl (fun a hF => ?_)
 replace hF : Fr 102 [(0, .slice (some ⟨b, o, none⟩) 8 c), (1, .int .i32 (r : Int))] a := hF
 revert a; refine Sq (Rg (Md 1 [0,1] rfl (Nx (Sq (Rg (Mv 1 rfl ?_)))))); intro a hF
 refine op_conv_to hF rfl rfl rfl rfl Tryz.underlying21 Tryz.underlying186 rfl (IntWalk.u32_in _ ⟨by omega, by omega⟩) ?_; clear hF a; intro a hF
 revert a; refine Md 1 [0,1,5] rfl (Nx (Bo (Sq (Rg (Md 3 [0,1,5,17] rfl (Nx (Cd rfl (fun ht => ?_) ((fun ht => ?_)))))))))
 ·
  have h2 : r ≤ 2047 := by have := of_decide_eq_true ht; omega
  refine Sq (Rg (Mv 1 rfl ?_)); intro a hF
  refine op_indexAddr_sl hF rfl 1 rfl rfl rfl Tryz.underlying66 (by kernel_rfl) rfl rfl rfl (by omega) ?_; clear hF a; intro a hF
  refine op_load hF hM rfl 0 rfl rfl rfl Tryz.underlying5 rfl rfl rfl (List.getElem?_eq_getElem (by omega)) ?_; clear hF a; intro a hF
  revert a; refine Md 0 [0,1] rfl (Nx (Sq (Rg (Mv 2 rfl ?_)))); intro a hF
  refine op_shr hF rfl 6 ((r / 64 : Nat) : Int) rfl rfl rfl rfl rfl rfl (by rw [show min 6 IntKind.i32.bits = 6 from rfl, Int.fdiv_eq_ediv_of_nonneg _ (by decide)]; omega) ?_; clear hF a; intro a hF
  revert a; refine Mv 1 rfl ?_; intro a hF
  rw [u8_nat] at hF
  rw [Nat.mod_eq_of_lt (show r / 64 < 256 by omega)] at hF
  refine op_bits hF rfl _ rfl rfl rfl rfl rfl (or_u8 (p := 192) (q := r / 64) (by decide) (by omega)) ?_; clear hF a; intro a hF
  rw [or_c0 (by omega)] at hF
  refine op_indexAddr_sl hF rfl 0 rfl rfl rfl Tryz.underlying66 (by kernel_rfl) rfl rfl rfl (by omega) ?_; clear hF a; intro a hF
  refine op_store hF hM rfl 0 rfl rfl (by kernel_rfl) rfl rfl rfl rfl (by first | omega | (simp only [List.length_set]; omega)) ?_; clear hF hM a; intro a w  hF hM
  revert a; refine Md 0 [0,1] rfl (Nx (Sq (Rg (Mv 3 rfl ?_)))); intro a hF
  rw [u8_nat] at hF
  refine op_bits hF rfl _ rfl rfl rfl rfl rfl (and_u8 (p := r % 256) (q := 63) (Nat.mod_lt _ (by decide)) (by decide)) ?_; clear hF a; intro a hF
  rw [and_3f] at hF
  refine op_bits hF rfl _ rfl rfl rfl rfl rfl (or_u8 (p := 128) (q := r % 64) (by decide) (by omega)) ?_; clear hF a; intro a hF
  rw [or_80 (by omega)] at hF
  refine op_indexAddr_sl hF rfl 1 rfl rfl rfl Tryz.underlying66 (by kernel_rfl) rfl rfl rfl (by omega) ?_; clear hF a; intro a hF
  refine op_store hF hM rfl 0 rfl rfl (by kernel_rfl) rfl rfl rfl rfl (by first | omega | (simp only [List.length_set]; omega)) ?_; clear hF hM a; intro a w  hF hM
  revert a; refine Md 0 [] rfl (Nx (Sq (Rg (Md 1 [4] rfl (Nx (Re (Rb ?_))))))); intro a hF
  first
    | exact ret_enc hF (enc_2 hr1 h2) hM rfl ho
    | exact ret_enc hF (enc_3a h2 h3) hM rfl ho
    | exact ret_enc hF (enc_3b h4.1 h4.2) hM rfl ho
    | exact ret_enc hF (enc_4 h5 hr2) hM rfl ho
    | exact ret_enc hF (enc_bad h3 h4) hM rfl ho
    | (exfalso; omega)
 have h2 : 2047 < r := by have := of_decide_eq_false ht; omega
 refine Sq (Sq (Rg (Md 3 [0,1,5,35] rfl (Nx (Cd rfl (fun ht => ?_) ((fun ht => ?_)))))))
 ·
  have h3 : r < 55296 := by have := of_decide_eq_true ht; omega
  refine Sk (Nx (D2 rfl (fun ht => absurd (of_decide_eq_false ht) (by omega)) (Sq (Rg (Mv 1 rfl ?_))))); intro a hF
  refine op_indexAddr_sl hF rfl 2 rfl rfl rfl Tryz.underlying66 (by kernel_rfl) rfl rfl rfl (by omega) ?_; clear hF a; intro a hF
  refine op_load hF hM rfl 0 rfl rfl rfl Tryz.underlying5 rfl rfl rfl (List.getElem?_eq_getElem (by omega)) ?_; clear hF a; intro a hF
  revert a; refine Md 0 [0,1] rfl (Nx (Sq (Rg (Mv 2 rfl ?_)))); intro a hF
  refine op_shr hF rfl 12 ((r / 4096 : Nat) : Int) rfl rfl rfl rfl rfl rfl (by rw [show min 12 IntKind.i32.bits = 12 from rfl, Int.fdiv_eq_ediv_of_nonneg _ (by decide)]; omega) ?_; clear hF a; intro a hF
  revert a; refine Mv 1 rfl ?_; intro a hF
  rw [u8_nat] at hF
  rw [Nat.mod_eq_of_lt (show r / 4096 < 256 by omega)] at hF
  refine op_bits hF rfl _ rfl rfl rfl rfl rfl (or_u8 (p := 224) (q := r / 4096) (by decide) (by omega)) ?_; clear hF a; intro a hF
  rw [or_e0 (by omega)] at hF
  refine op_indexAddr_sl hF rfl 0 rfl rfl rfl Tryz.underlying66 (by kernel_rfl) rfl rfl rfl (by omega) ?_; clear hF a; intro a hF
  refine op_store hF hM rfl 0 rfl rfl (by kernel_rfl) rfl rfl rfl rfl (by first | omega | (simp only [List.length_set]; omega)) ?_; clear hF hM a; intro a w  hF hM
  revert a; refine Md 0 [0,1] rfl (Nx (Sq (Rg (Mv 2 rfl ?_)))); intro a hF
  refine op_shr hF rfl 6 ((r / 64 : Nat) : Int) rfl rfl rfl rfl rfl rfl (by rw [show min 6 IntKind.i32.bits = 6 from rfl, Int.fdiv_eq_ediv_of_nonneg _ (by decide)]; omega) ?_; clear hF a; intro a hF
  revert a; refine Mv 1 rfl ?_; intro a hF
  rw [u8_nat] at hF
  refine op_bits hF rfl _ rfl rfl rfl rfl rfl (and_u8 (p := (r / 64) % 256) (q := 63) (Nat.mod_lt _ (by decide)) (by decide)) ?_; clear hF a; intro a hF
  rw [and_3f] at hF
  refine op_bits hF rfl _ rfl rfl rfl rfl rfl (or_u8 (p := 128) (q := r / 64 % 64) (by decide) (by omega)) ?_; clear hF a; intro a hF
  rw [or_80 (by omega)] at hF
  refine op_indexAddr_sl hF rfl 1 rfl rfl rfl Tryz.underlying66 (by kernel_rfl) rfl rfl rfl (by omega) ?_; clear hF a; intro a hF
  refine op_store hF hM rfl 0 rfl rfl (by kernel_rfl) rfl rfl rfl rfl (by first | omega | (simp only [List.length_set]; omega)) ?_; clear hF hM a; intro a w  hF hM
  revert a; refine Md 0 [0,1] rfl (Nx (Sq (Rg (Mv 3 rfl ?_)))); intro a hF
  rw [u8_nat] at hF
  refine op_bits hF rfl _ rfl rfl rfl rfl rfl (and_u8 (p := r % 256) (q := 63) (Nat.mod_lt _ (by decide)) (by decide)) ?_; clear hF a; intro a hF
  rw [and_3f] at hF
  refine op_bits hF rfl _ rfl rfl rfl rfl rfl (or_u8 (p := 128) (q := r % 64) (by decide) (by omega)) ?_; clear hF a; intro a hF
  rw [or_80 (by omega)] at hF
  refine op_indexAddr_sl hF rfl 2 rfl rfl rfl Tryz.underlying66 (by kernel_rfl) rfl rfl rfl (by omega) ?_; clear hF a; intro a hF
  refine op_store hF hM rfl 0 rfl rfl (by kernel_rfl) rfl rfl rfl rfl (by first | omega | (simp only [List.length_set]; omega)) ?_; clear hF hM a; intro a w  hF hM
  revert a; refine Md 0 [] rfl (Nx (Sq (Rg (Md 1 [4] rfl (Nx (Re (Rb ?_))))))); intro a hF
  first
    | exact ret_enc hF (enc_2 hr1 h2) hM rfl ho
    | exact ret_enc hF (enc_3a h2 h3) hM rfl ho
    | exact ret_enc hF (enc_3b h4.1 h4.2) hM rfl ho
    | exact ret_enc hF (enc_4 h5 hr2) hM rfl ho
    | exact ret_enc hF (enc_bad h3 h4) hM rfl ho
    | (exfalso; omega)
 have h3 : 55296 ≤ r := by have := of_decide_eq_false ht; omega
 rcases (show r ≤ 57343 ∨ (57343 < r ∧ r ≤ 65535) ∨ (57343 < r ∧ 65535 < r) by omega) with h4 | h4 | h4
 ·
  refine Rg (Mv 1 rfl (Bv rfl rfl (decide_eq_false (show ¬ ((57343 : Int) < (r : Int)) by omega)) (Md 5 [0,1,5,35] rfl (Nx (Cf rfl (Sq ?_))))))
  rcases Nat.lt_or_ge 65535 r with h5 | h5
  ·
   refine Rg (Mv 1 rfl (Bv rfl rfl (decide_eq_true (show ((r : Int) > 65535) by omega)) (Mv 2 rfl (Bv rfl rfl (decide_eq_true (show ((r : Int) ≤ 1114111) by omega)) (Md 2 [0,1,66] rfl (Nx (Ct rfl (Sq (Rg (Mv 1 rfl ?_)))))))))); intro a hF
   refine op_indexAddr_sl hF rfl 3 rfl rfl rfl Tryz.underlying66 (by kernel_rfl) rfl rfl rfl (by omega) ?_; clear hF a; intro a hF
   refine op_load hF hM rfl 0 rfl rfl rfl Tryz.underlying5 rfl rfl rfl (List.getElem?_eq_getElem (by omega)) ?_; clear hF a; intro a hF
   revert a; refine Md 0 [0,1] rfl (Nx (Sq (Rg (Mv 2 rfl ?_)))); intro a hF
   refine op_shr hF rfl 18 ((r / 262144 : Nat) : Int) rfl rfl rfl rfl rfl rfl (by rw [show min 18 IntKind.i32.bits = 18 from rfl, Int.fdiv_eq_ediv_of_nonneg _ (by decide)]; omega) ?_; clear hF a; intro a hF
   revert a; refine Mv 1 rfl ?_; intro a hF
   rw [u8_nat] at hF
   rw [Nat.mod_eq_of_lt (show r / 262144 < 256 by omega)] at hF
   refine op_bits hF rfl _ rfl rfl rfl rfl rfl (or_u8 (p := 240) (q := r / 262144) (by decide) (by omega)) ?_; clear hF a; intro a hF
   rw [or_f0 (by omega)] at hF
   refine op_indexAddr_sl hF rfl 0 rfl rfl rfl Tryz.underlying66 (by kernel_rfl) rfl rfl rfl (by omega) ?_; clear hF a; intro a hF
   refine op_store hF hM rfl 0 rfl rfl (by kernel_rfl) rfl rfl rfl rfl (by first | omega | (simp only [List.length_set]; omega)) ?_; clear hF hM a; intro a w  hF hM
   revert a; refine Md 0 [0,1] rfl (Nx (Sq (Rg (Mv 2 rfl ?_)))); intro a hF
   refine op_shr hF rfl 12 ((r / 4096 : Nat) : Int) rfl rfl rfl rfl rfl rfl (by rw [show min 12 IntKind.i32.bits = 12 from rfl, Int.fdiv_eq_ediv_of_nonneg _ (by decide)]; omega) ?_; clear hF a; intro a hF
   revert a; refine Mv 1 rfl ?_; intro a hF
   rw [u8_nat] at hF
   refine op_bits hF rfl _ rfl rfl rfl rfl rfl (and_u8 (p := (r / 4096) % 256) (q := 63) (Nat.mod_lt _ (by decide)) (by decide)) ?_; clear hF a; intro a hF
   rw [and_3f] at hF
   refine op_bits hF rfl _ rfl rfl rfl rfl rfl (or_u8 (p := 128) (q := r / 4096 % 64) (by decide) (by omega)) ?_; clear hF a; intro a hF
   rw [or_80 (by omega)] at hF
   refine op_indexAddr_sl hF rfl 1 rfl rfl rfl Tryz.underlying66 (by kernel_rfl) rfl rfl rfl (by omega) ?_; clear hF a; intro a hF
   refine op_store hF hM rfl 0 rfl rfl (by kernel_rfl) rfl rfl rfl rfl (by first | omega | (simp only [List.length_set]; omega)) ?_; clear hF hM a; intro a w  hF hM
   revert a; refine Md 0 [0,1] rfl (Nx (Sq (Rg (Mv 2 rfl ?_)))); intro a hF
   refine op_shr hF rfl 6 ((r / 64 : Nat) : Int) rfl rfl rfl rfl rfl rfl (by rw [show min 6 IntKind.i32.bits = 6 from rfl, Int.fdiv_eq_ediv_of_nonneg _ (by decide)]; omega) ?_; clear hF a; intro a hF
   revert a; refine Mv 1 rfl ?_; intro a hF
   rw [u8_nat] at hF
   refine op_bits hF rfl _ rfl rfl rfl rfl rfl (and_u8 (p := (r / 64) % 256) (q := 63) (Nat.mod_lt _ (by decide)) (by decide)) ?_; clear hF a; intro a hF
   rw [and_3f] at hF
   refine op_bits hF rfl _ rfl rfl rfl rfl rfl (or_u8 (p := 128) (q := r / 64 % 64) (by decide) (by omega)) ?_; clear hF a; intro a hF
   rw [or_80 (by omega)] at hF
   refine op_indexAddr_sl hF rfl 2 rfl rfl rfl Tryz.underlying66 (by kernel_rfl) rfl rfl rfl (by omega) ?_; clear hF a; intro a hF
   refine op_store hF hM rfl 0 rfl rfl (by kernel_rfl) rfl rfl rfl rfl (by first | omega | (simp only [List.length_set]; omega)) ?_; clear hF hM a; intro a w  hF hM
   revert a; refine Md 0 [0,1] rfl (Nx (Sq (Rg (Mv 3 rfl ?_)))); intro a hF
   rw [u8_nat] at hF
   refine op_bits hF rfl _ rfl rfl rfl rfl rfl (and_u8 (p := r % 256) (q := 63) (Nat.mod_lt _ (by decide)) (by decide)) ?_; clear hF a; intro a hF
   rw [and_3f] at hF
   refine op_bits hF rfl _ rfl rfl rfl rfl rfl (or_u8 (p := 128) (q := r % 64) (by decide) (by omega)) ?_; clear hF a; intro a hF
   rw [or_80 (by omega)] at hF
   refine op_indexAddr_sl hF rfl 3 rfl rfl rfl Tryz.underlying66 (by kernel_rfl) rfl rfl rfl (by omega) ?_; clear hF a; intro a hF
   refine op_store hF hM rfl 0 rfl rfl (by kernel_rfl) rfl rfl rfl rfl (by first | omega | (simp only [List.length_set]; omega)) ?_; clear hF hM a; intro a w  hF hM
   revert a; refine Md 0 [] rfl (Nx (Sq (Rg (Md 1 [4] rfl (Nx (Re (Rb ?_))))))); intro a hF
   first
     | exact ret_enc hF (enc_2 hr1 h2) hM rfl ho
     | exact ret_enc hF (enc_3a h2 h3) hM rfl ho
     | exact ret_enc hF (enc_3b h4.1 h4.2) hM rfl ho
     | exact ret_enc hF (enc_4 h5 hr2) hM rfl ho
     | exact ret_enc hF (enc_bad h3 h4) hM rfl ho
     | (exfalso; omega)
  refine Rg (Mv 1 rfl (Bv rfl rfl (decide_eq_false (show ¬ ((r : Int) > 65535) by omega)) (Md 5 [0,1,66] rfl (Nx (Cf rfl (Sq (Rg (Mv 1 rfl ?_)))))))); intro a hF
  refine op_indexAddr_sl hF rfl 2 rfl rfl rfl Tryz.underlying66 (by kernel_rfl) rfl rfl rfl (by omega) ?_; clear hF a; intro a hF
  refine op_load hF hM rfl 0 rfl rfl rfl Tryz.underlying5 rfl rfl rfl (List.getElem?_eq_getElem (by omega)) ?_; clear hF a; intro a hF
  revert a; refine Md 0 [0] rfl (Nx (Sq (Rg (Mv 1 rfl ?_)))); intro a hF
  refine op_indexAddr_sl hF rfl 0 rfl rfl rfl Tryz.underlying66 (by kernel_rfl) rfl rfl rfl (by omega) ?_; clear hF a; intro a hF
  refine op_store hF hM rfl 0 rfl rfl (by kernel_rfl) rfl rfl rfl rfl (by first | omega | (simp only [List.length_set]; omega)) ?_; clear hF hM a; intro a w  hF hM
  revert a; refine Md 0 [0] rfl (Nx (Sq (Rg (Mv 1 rfl ?_)))); intro a hF
  refine op_indexAddr_sl hF rfl 1 rfl rfl rfl Tryz.underlying66 (by kernel_rfl) rfl rfl rfl (by omega) ?_; clear hF a; intro a hF
  refine op_store hF hM rfl 0 rfl rfl (by kernel_rfl) rfl rfl rfl rfl (by first | omega | (simp only [List.length_set]; omega)) ?_; clear hF hM a; intro a w  hF hM
  revert a; refine Md 0 [0] rfl (Nx (Sq (Rg (Mv 1 rfl ?_)))); intro a hF
  refine op_indexAddr_sl hF rfl 2 rfl rfl rfl Tryz.underlying66 (by kernel_rfl) rfl rfl rfl (by omega) ?_; clear hF a; intro a hF
  refine op_store hF hM rfl 0 rfl rfl (by kernel_rfl) rfl rfl rfl rfl (by first | omega | (simp only [List.length_set]; omega)) ?_; clear hF hM a; intro a w  hF hM
  revert a; refine Md 0 [] rfl (Nx (Sq (Rg (Md 1 [4] rfl (Nx (Re (Rb ?_))))))); intro a hF
  first
    | exact ret_enc hF (enc_2 hr1 h2) hM rfl ho
    | exact ret_enc hF (enc_3a h2 h3) hM rfl ho
    | exact ret_enc hF (enc_3b h4.1 h4.2) hM rfl ho
    | exact ret_enc hF (enc_4 h5 hr2) hM rfl ho
    | exact ret_enc hF (enc_bad h3 h4) hM rfl ho
    | (exfalso; omega)
 ·
  refine Rg (Mv 1 rfl (Bv rfl rfl (decide_eq_true (show ((57343 : Int) < (r : Int)) by omega)) (Mv 2 rfl (Bv rfl rfl (decide_eq_true (show ((r : Int) ≤ 65535) by omega)) (Md 2 [0,1,5,35] rfl (Nx (Ct rfl (Sq (Rg (Mv 1 rfl ?_)))))))))); intro a hF
  refine op_indexAddr_sl hF rfl 2 rfl rfl rfl Tryz.underlying66 (by kernel_rfl) rfl rfl rfl (by omega) ?_; clear hF a; intro a hF
  refine op_load hF hM rfl 0 rfl rfl rfl Tryz.underlying5 rfl rfl rfl (List.getElem?_eq_getElem (by omega)) ?_; clear hF a; intro a hF
  revert a; refine Md 0 [0,1] rfl (Nx (Sq (Rg (Mv 2 rfl ?_)))); intro a hF
  refine op_shr hF rfl 12 ((r / 4096 : Nat) : Int) rfl rfl rfl rfl rfl rfl (by rw [show min 12 IntKind.i32.bits = 12 from rfl, Int.fdiv_eq_ediv_of_nonneg _ (by decide)]; omega) ?_; clear hF a; intro a hF
  revert a; refine Mv 1 rfl ?_; intro a hF
  rw [u8_nat] at hF
  rw [Nat.mod_eq_of_lt (show r / 4096 < 256 by omega)] at hF
  refine op_bits hF rfl _ rfl rfl rfl rfl rfl (or_u8 (p := 224) (q := r / 4096) (by decide) (by omega)) ?_; clear hF a; intro a hF
  rw [or_e0 (by omega)] at hF
  refine op_indexAddr_sl hF rfl 0 rfl rfl rfl Tryz.underlying66 (by kernel_rfl) rfl rfl rfl (by omega) ?_; clear hF a; intro a hF
  refine op_store hF hM rfl 0 rfl rfl (by kernel_rfl) rfl rfl rfl rfl (by first | omega | (simp only [List.length_set]; omega)) ?_; clear hF hM a; intro a w  hF hM
  revert a; refine Md 0 [0,1] rfl (Nx (Sq (Rg (Mv 2 rfl ?_)))); intro a hF
  refine op_shr hF rfl 6 ((r / 64 : Nat) : Int) rfl rfl rfl rfl rfl rfl (by rw [show min 6 IntKind.i32.bits = 6 from rfl, Int.fdiv_eq_ediv_of_nonneg _ (by decide)]; omega) ?_; clear hF a; intro a hF
  revert a; refine Mv 1 rfl ?_; intro a hF
  rw [u8_nat] at hF
  refine op_bits hF rfl _ rfl rfl rfl rfl rfl (and_u8 (p := (r / 64) % 256) (q := 63) (Nat.mod_lt _ (by decide)) (by decide)) ?_; clear hF a; intro a hF
  rw [and_3f] at hF
  refine op_bits hF rfl _ rfl rfl rfl rfl rfl (or_u8 (p := 128) (q := r / 64 % 64) (by decide) (by omega)) ?_; clear hF a; intro a hF
  rw [or_80 (by omega)] at hF
  refine op_indexAddr_sl hF rfl 1 rfl rfl rfl Tryz.underlying66 (by kernel_rfl) rfl rfl rfl (by omega) ?_; clear hF a; intro a hF
  refine op_store hF hM rfl 0 rfl rfl (by kernel_rfl) rfl rfl rfl rfl (by first | omega | (simp only [List.length_set]; omega)) ?_; clear hF hM a; intro a w  hF hM
  revert a; refine Md 0 [0,1] rfl (Nx (Sq (Rg (Mv 3 rfl ?_)))); intro a hF
  rw [u8_nat] at hF
  refine op_bits hF rfl _ rfl rfl rfl rfl rfl (and_u8 (p := r % 256) (q := 63) (Nat.mod_lt _ (by decide)) (by decide)) ?_; clear hF a; intro a hF
  rw [and_3f] at hF
  refine op_bits hF rfl _ rfl rfl rfl rfl rfl (or_u8 (p := 128) (q := r % 64) (by decide) (by omega)) ?_; clear hF a; intro a hF
  rw [or_80 (by omega)] at hF
  refine op_indexAddr_sl hF rfl 2 rfl rfl rfl Tryz.underlying66 (by kernel_rfl) rfl rfl rfl (by omega) ?_; clear hF a; intro a hF
  refine op_store hF hM rfl 0 rfl rfl (by kernel_rfl) rfl rfl rfl rfl (by first | omega | (simp only [List.length_set]; omega)) ?_; clear hF hM a; intro a w  hF hM
  revert a; refine Md 0 [] rfl (Nx (Sq (Rg (Md 1 [4] rfl (Nx (Re (Rb ?_))))))); intro a hF
  first
    | exact ret_enc hF (enc_2 hr1 h2) hM rfl ho
    | exact ret_enc hF (enc_3a h2 h3) hM rfl ho
    | exact ret_enc hF (enc_3b h4.1 h4.2) hM rfl ho
    | exact ret_enc hF (enc_4 h5 hr2) hM rfl ho
    | exact ret_enc hF (enc_bad h3 h4) hM rfl ho
    | (exfalso; omega)
 refine Rg (Mv 1 rfl (Bv rfl rfl (decide_eq_true (show ((57343 : Int) < (r : Int)) by omega)) (Mv 2 rfl (Bv rfl rfl (decide_eq_false (show ¬ ((r : Int) ≤ 65535) by omega)) (Md 2 [0,1,5,35] rfl (Nx (Cf rfl (Sq ?_))))))))
 rcases Nat.lt_or_ge 65535 r with h5 | h5
 ·
  refine Rg (Mv 1 rfl (Bv rfl rfl (decide_eq_true (show ((r : Int) > 65535) by omega)) (Mv 2 rfl (Bv rfl rfl (decide_eq_true (show ((r : Int) ≤ 1114111) by omega)) (Md 2 [0,1,66] rfl (Nx (Ct rfl (Sq (Rg (Mv 1 rfl ?_)))))))))); intro a hF
  refine op_indexAddr_sl hF rfl 3 rfl rfl rfl Tryz.underlying66 (by kernel_rfl) rfl rfl rfl (by omega) ?_; clear hF a; intro a hF
  refine op_load hF hM rfl 0 rfl rfl rfl Tryz.underlying5 rfl rfl rfl (List.getElem?_eq_getElem (by omega)) ?_; clear hF a; intro a hF
  revert a; refine Md 0 [0,1] rfl (Nx (Sq (Rg (Mv 2 rfl ?_)))); intro a hF
  refine op_shr hF rfl 18 ((r / 262144 : Nat) : Int) rfl rfl rfl rfl rfl rfl (by rw [show min 18 IntKind.i32.bits = 18 from rfl, Int.fdiv_eq_ediv_of_nonneg _ (by decide)]; omega) ?_; clear hF a; intro a hF
  revert a; refine Mv 1 rfl ?_; intro a hF
  rw [u8_nat] at hF
  rw [Nat.mod_eq_of_lt (show r / 262144 < 256 by omega)] at hF
  refine op_bits hF rfl _ rfl rfl rfl rfl rfl (or_u8 (p := 240) (q := r / 262144) (by decide) (by omega)) ?_; clear hF a; intro a hF
  rw [or_f0 (by omega)] at hF
  refine op_indexAddr_sl hF rfl 0 rfl rfl rfl Tryz.underlying66 (by kernel_rfl) rfl rfl rfl (by omega) ?_; clear hF a; intro a hF
  refine op_store hF hM rfl 0 rfl rfl (by kernel_rfl) rfl rfl rfl rfl (by first | omega | (simp only [List.length_set]; omega)) ?_; clear hF hM a; intro a w  hF hM
  revert a; refine Md 0 [0,1] rfl (Nx (Sq (Rg (Mv 2 rfl ?_)))); intro a hF
  refine op_shr hF rfl 12 ((r / 4096 : Nat) : Int) rfl rfl rfl rfl rfl rfl (by rw [show min 12 IntKind.i32.bits = 12 from rfl, Int.fdiv_eq_ediv_of_nonneg _ (by decide)]; omega) ?_; clear hF a; intro a hF
  revert a; refine Mv 1 rfl ?_; intro a hF
  rw [u8_nat] at hF
  refine op_bits hF rfl _ rfl rfl rfl rfl rfl (and_u8 (p := (r / 4096) % 256) (q := 63) (Nat.mod_lt _ (by decide)) (by decide)) ?_; clear hF a; intro a hF
  rw [and_3f] at hF
  refine op_bits hF rfl _ rfl rfl rfl rfl rfl (or_u8 (p := 128) (q := r / 4096 % 64) (by decide) (by omega)) ?_; clear hF a; intro a hF
  rw [or_80 (by omega)] at hF
  refine op_indexAddr_sl hF rfl 1 rfl rfl rfl Tryz.underlying66 (by kernel_rfl) rfl rfl rfl (by omega) ?_; clear hF a; intro a hF
  refine op_store hF hM rfl 0 rfl rfl (by kernel_rfl) rfl rfl rfl rfl (by first | omega | (simp only [List.length_set]; omega)) ?_; clear hF hM a; intro a w  hF hM
  revert a; refine Md 0 [0,1] rfl (Nx (Sq (Rg (Mv 2 rfl ?_)))); intro a hF
  refine op_shr hF rfl 6 ((r / 64 : Nat) : Int) rfl rfl rfl rfl rfl rfl (by rw [show min 6 IntKind.i32.bits = 6 from rfl, Int.fdiv_eq_ediv_of_nonneg _ (by decide)]; omega) ?_; clear hF a; intro a hF
  revert a; refine Mv 1 rfl ?_; intro a hF
  rw [u8_nat] at hF
  refine op_bits hF rfl _ rfl rfl rfl rfl rfl (and_u8 (p := (r / 64) % 256) (q := 63) (Nat.mod_lt _ (by decide)) (by decide)) ?_; clear hF a; intro a hF
  rw [and_3f] at hF
  refine op_bits hF rfl _ rfl rfl rfl rfl rfl (or_u8 (p := 128) (q := r / 64 % 64) (by decide) (by omega)) ?_; clear hF a; intro a hF
  rw [or_80 (by omega)] at hF
  refine op_indexAddr_sl hF rfl 2 rfl rfl rfl Tryz.underlying66 (by kernel_rfl) rfl rfl rfl (by omega) ?_; clear hF a; intro a hF
  refine op_store hF hM rfl 0 rfl rfl (by kernel_rfl) rfl rfl rfl rfl (by first | omega | (simp only [List.length_set]; omega)) ?_; clear hF hM a; intro a w  hF hM
  revert a; refine Md 0 [0,1] rfl (Nx (Sq (Rg (Mv 3 rfl ?_)))); intro a hF
  rw [u8_nat] at hF
  refine op_bits hF rfl _ rfl rfl rfl rfl rfl (and_u8 (p := r % 256) (q := 63) (Nat.mod_lt _ (by decide)) (by decide)) ?_; clear hF a; intro a hF
  rw [and_3f] at hF
  refine op_bits hF rfl _ rfl rfl rfl rfl rfl (or_u8 (p := 128) (q := r % 64) (by decide) (by omega)) ?_; clear hF a; intro a hF
  rw [or_80 (by omega)] at hF
  refine op_indexAddr_sl hF rfl 3 rfl rfl rfl Tryz.underlying66 (by kernel_rfl) rfl rfl rfl (by omega) ?_; clear hF a; intro a hF
  refine op_store hF hM rfl 0 rfl rfl (by kernel_rfl) rfl rfl rfl rfl (by first | omega | (simp only [List.length_set]; omega)) ?_; clear hF hM a; intro a w  hF hM
  revert a; refine Md 0 [] rfl (Nx (Sq (Rg (Md 1 [4] rfl (Nx (Re (Rb ?_))))))); intro a hF
  first
    | exact ret_enc hF (enc_2 hr1 h2) hM rfl ho
    | exact ret_enc hF (enc_3a h2 h3) hM rfl ho
    | exact ret_enc hF (enc_3b h4.1 h4.2) hM rfl ho
    | exact ret_enc hF (enc_4 h5 hr2) hM rfl ho
    | exact ret_enc hF (enc_bad h3 h4) hM rfl ho
    | (exfalso; omega)
 refine Rg (Mv 1 rfl (Bv rfl rfl (decide_eq_false (show ¬ ((r : Int) > 65535) by omega)) (Md 5 [0,1,66] rfl (Nx (Cf rfl (Sq (Rg (Mv 1 rfl ?_)))))))); intro a hF
 refine op_indexAddr_sl hF rfl 2 rfl rfl rfl Tryz.underlying66 (by kernel_rfl) rfl rfl rfl (by omega) ?_; clear hF a; intro a hF
 refine op_load hF hM rfl 0 rfl rfl rfl Tryz.underlying5 rfl rfl rfl (List.getElem?_eq_getElem (by omega)) ?_; clear hF a; intro a hF
 revert a; refine Md 0 [0] rfl (Nx (Sq (Rg (Mv 1 rfl ?_)))); intro a hF
 refine op_indexAddr_sl hF rfl 0 rfl rfl rfl Tryz.underlying66 (by kernel_rfl) rfl rfl rfl (by omega) ?_; clear hF a; intro a hF
 refine op_store hF hM rfl 0 rfl rfl (by kernel_rfl) rfl rfl rfl rfl (by first | omega | (simp only [List.length_set]; omega)) ?_; clear hF hM a; intro a w  hF hM
 revert a; refine Md 0 [0] rfl (Nx (Sq (Rg (Mv 1 rfl ?_)))); intro a hF
 refine op_indexAddr_sl hF rfl 1 rfl rfl rfl Tryz.underlying66 (by kernel_rfl) rfl rfl rfl (by omega) ?_; clear hF a; intro a hF
 refine op_store hF hM rfl 0 rfl rfl (by kernel_rfl) rfl rfl rfl rfl (by first | omega | (simp only [List.length_set]; omega)) ?_; clear hF hM a; intro a w  hF hM
 revert a; refine Md 0 [0] rfl (Nx (Sq (Rg (Mv 1 rfl ?_)))); intro a hF
 refine op_indexAddr_sl hF rfl 2 rfl rfl rfl Tryz.underlying66 (by kernel_rfl) rfl rfl rfl (by omega) ?_; clear hF a; intro a hF
 refine op_store hF hM rfl 0 rfl rfl (by kernel_rfl) rfl rfl rfl rfl (by first | omega | (simp only [List.length_set]; omega)) ?_; clear hF hM a; intro a w  hF hM
 revert a; refine Md 0 [] rfl (Nx (Sq (Rg (Md 1 [4] rfl (Nx (Re (Rb ?_))))))); intro a hF
 first
   | exact ret_enc hF (enc_2 hr1 h2) hM rfl ho
   | exact ret_enc hF (enc_3a h2 h3) hM rfl ho
   | exact ret_enc hF (enc_3b h4.1 h4.2) hM rfl ho
   | exact ret_enc hF (enc_4 h5 hr2) hM rfl ho
   | exact ret_enc hF (enc_bad h3 h4) hM rfl ho
   | (exfalso; omega)
end Go.Sx
namespace Go.Sx
open Go.RowKit Go.Proofs Js Go.Proofs.YtelonenjneonlaaGreatDoorW.PrintWords
theorem enc_1 {r : Nat} (h1 : r < 128) : [Value.int .u8 (r : Int)] = u8s (enc r) ∧ (1 : Int) = ((enc r).length : Int) ∧ (enc r).length ≤ 4 := by
  have e : enc r = [r.toUInt8] := by unfold enc; rw [if_pos (by omega)]
  rw [e]
  refine ⟨?_, rfl, by simp⟩
  simp only [u8s, List.map_cons, List.map_nil]
  rw [byte_nat (by omega)]
theorem encode_walk {B : Nat} {w00 : World} {L' : List Bk} {b o c : Nat} {vs : List Value} (r : Nat) (w0 : World) (hM0 : Mem B w00 ((b, 5, vs) :: L') w0) (hr2 : r ≤ 1114111) (ho : o + 8 ≤ vs.length) :
    Calls Tryz.prog 166 #[.slice (some ⟨b, o, none⟩) 8 c, .int .i32 (r : Int)] w0 (Ret fun v w' => v = .int .i64 ((enc r).length : Int) ∧ Mem B w00 ((b, 5, vs.take o ++ u8s (enc r) ++ vs.drop (o + (enc r).length)) :: L') w') := by
 have hM := hM0
 refine enter (l := [.slice (some ⟨b, o, none⟩) 8 c, .int .i32 (r : Int)]) 13 Tryz.func166 rfl rfl (fun a hF => ?_)
 replace hF : Fr 15 [(0, .slice (some ⟨b, o, none⟩) 8 c), (1, .int .i32 (r : Int))] a := hF
 revert a; refine Sq (Rg (Md 1 [0,1] rfl (Nx (Sq (Sq (Rg (Mv 1 rfl ?_))))))); intro a hF
 refine op_conv_to hF rfl rfl rfl rfl Tryz.underlying21 Tryz.underlying186 rfl (IntWalk.u32_in _ ⟨by omega, by omega⟩) ?_; clear hF a; intro a hF
 revert a; refine Md 1 [0,1,7] rfl (Nx (Ce rfl (fun ht => ?_) ((fun ht => ?_))))
 ·
  have h1 : 128 ≤ r := by have := of_decide_eq_false ht; omega
  refine Sk (Nx (Sq (Rg (Mv 2 rfl ?_)))); intro a hF
  refine op_call hF rfl rfl rfl rfl Tryz.func180 (by kernel_rfl) rfl rfl (encodeNon_walk r w0 hM h1 hr2 ho) ?_
  clear hF hM a; intro a w v hR hF; obtain ⟨rfl, hM⟩ := hR
  revert a; refine Md 1 [4] rfl (Nx (Re ?_)); intro a hF
  first
    | exact ret_enc hF (enc_1 h1) hM rfl ho
    | exact ret1 hF rfl rfl ⟨_, rfl, rfl, hM⟩
 have h1 : r < 128 := by have := of_decide_eq_true ht; omega
 refine Sq (Rg (Mv 3 rfl ?_)); intro a hF
 rw [u8_nat, Nat.mod_eq_of_lt (show r < 256 by omega)] at hF
 refine op_indexAddr_sl hF rfl 0 rfl rfl rfl Tryz.underlying66 (by kernel_rfl) rfl rfl rfl (by omega) ?_; clear hF a; intro a hF
 refine op_store hF hM rfl 0 rfl rfl (by kernel_rfl) rfl rfl rfl rfl (by omega) ?_; clear hF hM a; intro a w  hF hM
 revert a; refine Md 0 [] rfl (Nx (Sq (Rg (Md 1 [4] rfl (Nx (Re (Rt ?_))))))); intro a hF
 first
   | exact ret_enc hF (enc_1 h1) hM rfl ho
   | exact ret1 hF rfl rfl ⟨_, rfl, rfl, hM⟩
end Go.Sx
namespace Go.Sx
open Go.RowKit Go.Proofs Js Go.Proofs.YtelonenjneonlaaGreatDoorW.PrintWords
theorem unescape_walk (s : Str) (w0 : World) (hT : s.length ≤ 2 ^ 40) (hs : Ins s) :
    Calls Tryz.prog 140 #[.string (mkS s)] w0 (Ret fun v w' => (∃ q : Str, v = .string (mkS q) ∧ (Prd s → q = unq s)) ∧ Below w0.heap.size w0 w') := by
 have hM : Mem w0.heap.size w0 [] w0 := Mem.start (Nat.le_refl _)
 refine enter (l := [.string (mkS s)]) 152 Tryz.func140 rfl rfl (fun a hF => ?_)
 replace hF : Fr 153 [(0, .string (mkS s))] a := hF
 revert a; refine Sq (Rg (Md 1 [0] rfl (Nx (Sq (Rg (Mv 2 rfl ?_)))))); intro a hF
 refine op_make hF hM rfl s.length rfl rfl rfl rfl rfl rfl (by omega) ?_; clear hF hM a; intro a w b vs hF hvl hM
 revert a; refine Md 1 [0,3] rfl (Nx (Sq (Sq (Rg (Md 1 [0,3,4] rfl (Nx (Bo (Kp [0,3,4] rfl ?_)))))))); intro a hF
 refine loopX (fun (x : Nat × Str) a w => ∃ b vs, Fr 153 [(0, .string (mkS s)), (3, .slice (some ⟨b, 0, none⟩) x.2.length vs.length), (4, .int .i64 (x.1 : Int))] a ∧ Mem w0.heap.size w0 [(b, 5, vs)] w ∧ x.2.length ≤ vs.length ∧ vs.length ≤ maxLen ∧ vs.take x.2.length = u8s x.2 ∧ Un s x.1 x.2) (fun x => s.length - x.1) ((0, [])) ?_ (fun x a w hI => ?_)
 · exact ⟨b, vs, hF, hM, Nat.zero_le _, by rw [hvl]; simp only [maxLen]; omega, by simp [u8s], Un.start hs⟩
 clear hF hM
 clear hvl
 obtain ⟨i, out⟩ := x
 obtain ⟨b, vs, hF, hM, hc1, hc2, hrow, hU⟩ := hI
 simp only at hF hc1 hrow hU
 have hUl := hU.len
 have hUi := hU.le
 revert a; refine Sq (Sq (Rg (Md 4 [0,3,4,13] rfl (Nx (Ce rfl (fun ht => ?_) ((fun ht => ?_)))))))
 ·
  have hge := of_decide_eq_false ht
  have hi : i = s.length := by omega
  subst hi
  refine Ex (Ot (Ot (Ob (Nx (Sq (Rg (Mv 1 rfl ?_))))))); intro a hF
  refine op_bytesStr (k := 0) hF hM rfl out rfl rfl rfl rfl rfl hrow rfl ?_; clear hF a; intro a hF
  revert a; exact Md 1 [2] rfl (Nx (Re (Y1 rfl rfl ⟨_, rfl, ⟨out, rfl, fun hp => hU.done hp⟩, hM.below⟩)))
 have hlt := of_decide_eq_true ht
 have hne : s.drop i ≠ [] := by intro e; have := congrArg List.length e; simp at this; omega
 refine Sk (Nx ?_); intro a hF
 refine cutF (fun a w => ∃ (i' : Nat) (out' : Str) (b : Nat) (vs : List Value), Fr 153 [(0, .string (mkS s)), (3, .slice (some ⟨b, 0, none⟩) out'.length vs.length), (4, .int .i64 (i' : Int))] a ∧ Mem w0.heap.size w0 [(b, 5, vs)] w ∧ out'.length ≤ vs.length ∧ vs.length ≤ maxLen ∧ vs.take out'.length = u8s out' ∧ i ≤ i' ∧ Un s (i' + 1) out') (fun a w h => ?_) ?_
 ·
  clear hF hM
  clear hrow hc1 hc2
  obtain ⟨i', out', b, vs, hF, hM, hc1, hc2, hrow, hii, hU'⟩ := h
  have hle' := hU'.le
  revert a; refine Rg (Mv 1 rfl (Sm (((i' + 1 : Nat) : Int)) rfl (by omega) (Md 1 [0,3,4] rfl ?_))); intro a hF
  exact ⟨(_, _), ⟨b, vs, hF, hM, hc1, hc2, hrow, hU'⟩, by simp only; omega⟩
 revert a; refine Bo (Bo (Sq ?_))
 rcases ins_cases hU.ins with e | ⟨c, r, ht_, hc32, hc92, hr⟩ | ⟨d, r, ht_, hd, hr⟩ | ⟨a1, b1, c1, d1, r, ht_, hx, hr⟩
 · exact absurd e hne
 ·
  have hget : ∀ j, s[i + j]? = (c :: r)[j]? := fun j => by rw [← ht_, List.getElem?_drop]
  have hU' := hU.plain ht_ hc92 hr
  refine Rg (Mv 2 rfl ?_); intro a hF
  refine op_index_str hF rfl (i) c rfl rfl rfl Tryz.underlying9 rfl rfl (by first | rfl | omega) (hget 0) ?_; clear hF a; intro a hF
  revert a; refine Md 2 [0,3,4,22] rfl (Nx (C1 rfl (fun ht => absurd (of_decide_eq_true ht) (by omega)) (Sq (Rg (Mv 2 rfl ?_))))); intro a hF
  refine op_index_str hF rfl (i) c rfl rfl rfl Tryz.underlying9 rfl rfl (by first | rfl | omega) (hget 0) ?_; clear hF a; intro a hF
  revert a; refine Md 2 [0,3,4,29] rfl (Nx (C1 rfl (fun ht => absurd (eq_t (d := 92) rfl ht) hc92) (Rg (Mv 3 rfl ?_)))); intro a hF
  refine op_index_str hF rfl (i) c rfl rfl rfl Tryz.underlying9 rfl rfl (by first | rfl | omega) (hget 0) ?_; clear hF a; intro a hF
  refine op_build hF hM rfl (m := 1) (parts := [(0, .tmp 19)]) (vals := [(0, .int .u8 (c.toNat : Int))]) [.int .u8 (c.toNat : Int)] rfl rfl rfl rfl (by decide) (by decide) (by kernel_rfl) ?_; clear hF hM a; intro a w b2 hF hM
  refine op_append (k := 1) hF hM rfl [.int .u8 (c.toNat : Int)] rfl rfl rfl rfl rfl rfl hc1 hc2 rfl (fun j u hj => hM.cells (k := 0) rfl j hj) (fun u hu => by rw [List.mem_singleton.1 hu]; rfl) (by omega) ?_
  clear hF hM a; intro a w bq vq hF hc1' hc2' hrow' hM
  replace hM := hM.drop (L' := [(bq, 5, vq)]) (List.Sublist.cons₂ _ (List.nil_sublist _))
  rw [hrow, show [.int .u8 (c.toNat : Int)] = u8s [c] from rfl, ← u8s_append, show out.length + 1 = (out ++ [c]).length by simp] at hrow'
  rw [show out.length + 1 = (out ++ [c]).length by simp] at hF hc1'
  revert a; refine Md 1 [0,3,4] rfl (Nb (Nb (Kp [0,3,4] rfl ?_))); intro a hF
  exact ⟨_, _, _, _, hF, hM, hc1', hc2', hrow', by omega, hU'⟩
 ·
  have hget : ∀ j, s[i + j]? = (92 :: d :: r)[j]? := fun j => by rw [← ht_, List.getElem?_drop]
  have hle2 : i + 2 ≤ s.length := le_of (t := [92, d]) ht_ (by simp)
  refine Rg (Mv 2 rfl ?_); intro a hF
  refine op_index_str hF rfl (i) 92 rfl rfl rfl Tryz.underlying9 rfl rfl (by first | rfl | omega) (hget 0) ?_; clear hF a; intro a hF
  revert a; refine Md 2 [0,3,4,22] rfl (Nx (C1 rfl (fun ht => absurd ht (by decide)) (Sq (Rg (Mv 2 rfl ?_))))); intro a hF
  refine op_index_str hF rfl (i) 92 rfl rfl rfl Tryz.underlying9 rfl rfl (by first | rfl | omega) (hget 0) ?_; clear hF a; intro a hF
  revert a; refine Md 2 [0,3,4,29] rfl (Nx (D2 rfl (fun ht => absurd ht (by decide)) (Sq (Rg (Mv 1 rfl (Sm (((i + 1 : Nat) : Int)) rfl (by omega) (Md 1 [0,3,4] rfl (Nx (Sq (Sq (Rg (Md 4 [0,3,4,39] rfl (Nx (C1 rfl (fun ht => absurd (of_decide_eq_true ht) (by omega)) (Sk (Nx (Sq (Rg (Mv 2 rfl ?_))))))))))))))))))); intro a hF
  refine op_index_str hF rfl (i + 1) d rfl rfl rfl Tryz.underlying9 rfl rfl (by first | rfl | omega) (hget 1) ?_; clear hF a; intro a hF
  revert a; refine Md 0 [0,3,4,44] rfl (Nx (Bo (Sq (Rg (Md 2 [0,3,4,44,47] rfl (Nx (Cd rfl (fun ht => ?_) ((fun ht => ?_)))))))))
  ·
   obtain rfl := eq_t (d := 92) rfl ht
   have hU' : Un s (i + 1 + 1) (out ++ [92]) := hU.esc ht_ (by decide) hr
   refine Rg (Mv 1 rfl ?_); intro a hF
   refine op_build hF hM rfl (m := 1) (parts := [(0, .const (.int .u8 92))]) (vals := [(0, .int .u8 92)]) [.int .u8 92] rfl rfl rfl rfl (by decide) (by decide) (by kernel_rfl) ?_; clear hF hM a; intro a w b2 hF hM
   refine op_append (k := 1) hF hM rfl [.int .u8 92] rfl rfl rfl rfl rfl rfl hc1 hc2 rfl (fun j u hj => hM.cells (k := 0) rfl j hj) (fun u hu => by rw [List.mem_singleton.1 hu]; rfl) (by omega) ?_
   clear hF hM a; intro a w bq vq hF hc1' hc2' hrow' hM
   replace hM := hM.drop (L' := [(bq, 5, vq)]) (List.Sublist.cons₂ _ (List.nil_sublist _))
   rw [hrow, show [.int .u8 92] = u8s [92] from rfl, ← u8s_append, show out.length + 1 = (out ++ [92]).length by simp] at hrow'
   rw [show out.length + 1 = (out ++ [92]).length by simp] at hF hc1'
   revert a; refine Md 1 [0,3,4] rfl (Nb (Nb (Nb (Kp [0,3,4] rfl ?_)))); intro a hF
   exact ⟨_, _, _, _, hF, hM, hc1', hc2', hrow', by omega, hU'⟩
  have n92 := eq_f (d := 92) rfl ht
  refine Sq (Rg (Md 2 [0,3,4,44,52] rfl (Nx (Cd rfl (fun ht => ?_) ((fun ht => ?_))))))
  ·
   obtain rfl := eq_t (d := 47) rfl ht
   have hU' : Un s (i + 1 + 1) (out ++ [47]) := hU.esc ht_ (by decide) hr
   refine Rg (Mv 1 rfl ?_); intro a hF
   refine op_build hF hM rfl (m := 1) (parts := [(0, .const (.int .u8 47))]) (vals := [(0, .int .u8 47)]) [.int .u8 47] rfl rfl rfl rfl (by decide) (by decide) (by kernel_rfl) ?_; clear hF hM a; intro a w b2 hF hM
   refine op_append (k := 1) hF hM rfl [.int .u8 47] rfl rfl rfl rfl rfl rfl hc1 hc2 rfl (fun j u hj => hM.cells (k := 0) rfl j hj) (fun u hu => by rw [List.mem_singleton.1 hu]; rfl) (by omega) ?_
   clear hF hM a; intro a w bq vq hF hc1' hc2' hrow' hM
   replace hM := hM.drop (L' := [(bq, 5, vq)]) (List.Sublist.cons₂ _ (List.nil_sublist _))
   rw [hrow, show [.int .u8 47] = u8s [47] from rfl, ← u8s_append, show out.length + 1 = (out ++ [47]).length by simp] at hrow'
   rw [show out.length + 1 = (out ++ [47]).length by simp] at hF hc1'
   revert a; refine Md 1 [0,3,4] rfl (Nb (Nb (Nb (Kp [0,3,4] rfl ?_)))); intro a hF
   exact ⟨_, _, _, _, hF, hM, hc1', hc2', hrow', by omega, hU'⟩
  have n47 := eq_f (d := 47) rfl ht
  refine Sq (Rg (Md 2 [0,3,4,44,57] rfl (Nx (Cd rfl (fun ht => ?_) ((fun ht => ?_))))))
  ·
   obtain rfl := eq_t (d := 98) rfl ht
   have hU' : Un s (i + 1 + 1) (out ++ [8]) := hU.esc ht_ (by decide) hr
   refine Rg (Mv 1 rfl ?_); intro a hF
   refine op_build hF hM rfl (m := 1) (parts := [(0, .const (.int .u8 8))]) (vals := [(0, .int .u8 8)]) [.int .u8 8] rfl rfl rfl rfl (by decide) (by decide) (by kernel_rfl) ?_; clear hF hM a; intro a w b2 hF hM
   refine op_append (k := 1) hF hM rfl [.int .u8 8] rfl rfl rfl rfl rfl rfl hc1 hc2 rfl (fun j u hj => hM.cells (k := 0) rfl j hj) (fun u hu => by rw [List.mem_singleton.1 hu]; rfl) (by omega) ?_
   clear hF hM a; intro a w bq vq hF hc1' hc2' hrow' hM
   replace hM := hM.drop (L' := [(bq, 5, vq)]) (List.Sublist.cons₂ _ (List.nil_sublist _))
   rw [hrow, show [.int .u8 8] = u8s [8] from rfl, ← u8s_append, show out.length + 1 = (out ++ [8]).length by simp] at hrow'
   rw [show out.length + 1 = (out ++ [8]).length by simp] at hF hc1'
   revert a; refine Md 1 [0,3,4] rfl (Nb (Nb (Nb (Kp [0,3,4] rfl ?_)))); intro a hF
   exact ⟨_, _, _, _, hF, hM, hc1', hc2', hrow', by omega, hU'⟩
  have n98 := eq_f (d := 98) rfl ht
  refine Sq (Rg (Md 2 [0,3,4,44,62] rfl (Nx (Cd rfl (fun ht => ?_) ((fun ht => ?_))))))
  ·
   obtain rfl := eq_t (d := 102) rfl ht
   have hU' : Un s (i + 1 + 1) (out ++ [12]) := hU.esc ht_ (by decide) hr
   refine Rg (Mv 1 rfl ?_); intro a hF
   refine op_build hF hM rfl (m := 1) (parts := [(0, .const (.int .u8 12))]) (vals := [(0, .int .u8 12)]) [.int .u8 12] rfl rfl rfl rfl (by decide) (by decide) (by kernel_rfl) ?_; clear hF hM a; intro a w b2 hF hM
   refine op_append (k := 1) hF hM rfl [.int .u8 12] rfl rfl rfl rfl rfl rfl hc1 hc2 rfl (fun j u hj => hM.cells (k := 0) rfl j hj) (fun u hu => by rw [List.mem_singleton.1 hu]; rfl) (by omega) ?_
   clear hF hM a; intro a w bq vq hF hc1' hc2' hrow' hM
   replace hM := hM.drop (L' := [(bq, 5, vq)]) (List.Sublist.cons₂ _ (List.nil_sublist _))
   rw [hrow, show [.int .u8 12] = u8s [12] from rfl, ← u8s_append, show out.length + 1 = (out ++ [12]).length by simp] at hrow'
   rw [show out.length + 1 = (out ++ [12]).length by simp] at hF hc1'
   revert a; refine Md 1 [0,3,4] rfl (Nb (Nb (Nb (Kp [0,3,4] rfl ?_)))); intro a hF
   exact ⟨_, _, _, _, hF, hM, hc1', hc2', hrow', by omega, hU'⟩
  have n102 := eq_f (d := 102) rfl ht
  refine Sq (Rg (Md 2 [0,3,4,44,67] rfl (Nx (Cd rfl (fun ht => ?_) ((fun ht => ?_))))))
  ·
   obtain rfl := eq_t (d := 110) rfl ht
   have hU' : Un s (i + 1 + 1) (out ++ [10]) := hU.esc ht_ (by decide) hr
   refine Rg (Mv 1 rfl ?_); intro a hF
   refine op_build hF hM rfl (m := 1) (parts := [(0, .const (.int .u8 10))]) (vals := [(0, .int .u8 10)]) [.int .u8 10] rfl rfl rfl rfl (by decide) (by decide) (by kernel_rfl) ?_; clear hF hM a; intro a w b2 hF hM
   refine op_append (k := 1) hF hM rfl [.int .u8 10] rfl rfl rfl rfl rfl rfl hc1 hc2 rfl (fun j u hj => hM.cells (k := 0) rfl j hj) (fun u hu => by rw [List.mem_singleton.1 hu]; rfl) (by omega) ?_
   clear hF hM a; intro a w bq vq hF hc1' hc2' hrow' hM
   replace hM := hM.drop (L' := [(bq, 5, vq)]) (List.Sublist.cons₂ _ (List.nil_sublist _))
   rw [hrow, show [.int .u8 10] = u8s [10] from rfl, ← u8s_append, show out.length + 1 = (out ++ [10]).length by simp] at hrow'
   rw [show out.length + 1 = (out ++ [10]).length by simp] at hF hc1'
   revert a; refine Md 1 [0,3,4] rfl (Nb (Nb (Nb (Kp [0,3,4] rfl ?_)))); intro a hF
   exact ⟨_, _, _, _, hF, hM, hc1', hc2', hrow', by omega, hU'⟩
  have n110 := eq_f (d := 110) rfl ht
  refine Sq (Rg (Md 2 [0,3,4,44,72] rfl (Nx (Cd rfl (fun ht => ?_) ((fun ht => ?_))))))
  ·
   obtain rfl := eq_t (d := 114) rfl ht
   have hU' : Un s (i + 1 + 1) (out ++ [13]) := hU.esc ht_ (by decide) hr
   refine Rg (Mv 1 rfl ?_); intro a hF
   refine op_build hF hM rfl (m := 1) (parts := [(0, .const (.int .u8 13))]) (vals := [(0, .int .u8 13)]) [.int .u8 13] rfl rfl rfl rfl (by decide) (by decide) (by kernel_rfl) ?_; clear hF hM a; intro a w b2 hF hM
   refine op_append (k := 1) hF hM rfl [.int .u8 13] rfl rfl rfl rfl rfl rfl hc1 hc2 rfl (fun j u hj => hM.cells (k := 0) rfl j hj) (fun u hu => by rw [List.mem_singleton.1 hu]; rfl) (by omega) ?_
   clear hF hM a; intro a w bq vq hF hc1' hc2' hrow' hM
   replace hM := hM.drop (L' := [(bq, 5, vq)]) (List.Sublist.cons₂ _ (List.nil_sublist _))
   rw [hrow, show [.int .u8 13] = u8s [13] from rfl, ← u8s_append, show out.length + 1 = (out ++ [13]).length by simp] at hrow'
   rw [show out.length + 1 = (out ++ [13]).length by simp] at hF hc1'
   revert a; refine Md 1 [0,3,4] rfl (Nb (Nb (Nb (Kp [0,3,4] rfl ?_)))); intro a hF
   exact ⟨_, _, _, _, hF, hM, hc1', hc2', hrow', by omega, hU'⟩
  have n114 := eq_f (d := 114) rfl ht
  refine Sq (Rg (Md 2 [0,3,4,44,77] rfl (Nx (Cd rfl (fun ht => ?_) ((fun ht => ?_))))))
  ·
   obtain rfl := eq_t (d := 116) rfl ht
   have hU' : Un s (i + 1 + 1) (out ++ [9]) := hU.esc ht_ (by decide) hr
   refine Rg (Mv 1 rfl ?_); intro a hF
   refine op_build hF hM rfl (m := 1) (parts := [(0, .const (.int .u8 9))]) (vals := [(0, .int .u8 9)]) [.int .u8 9] rfl rfl rfl rfl (by decide) (by decide) (by kernel_rfl) ?_; clear hF hM a; intro a w b2 hF hM
   refine op_append (k := 1) hF hM rfl [.int .u8 9] rfl rfl rfl rfl rfl rfl hc1 hc2 rfl (fun j u hj => hM.cells (k := 0) rfl j hj) (fun u hu => by rw [List.mem_singleton.1 hu]; rfl) (by omega) ?_
   clear hF hM a; intro a w bq vq hF hc1' hc2' hrow' hM
   replace hM := hM.drop (L' := [(bq, 5, vq)]) (List.Sublist.cons₂ _ (List.nil_sublist _))
   rw [hrow, show [.int .u8 9] = u8s [9] from rfl, ← u8s_append, show out.length + 1 = (out ++ [9]).length by simp] at hrow'
   rw [show out.length + 1 = (out ++ [9]).length by simp] at hF hc1'
   revert a; refine Md 1 [0,3,4] rfl (Nb (Nb (Nb (Kp [0,3,4] rfl ?_)))); intro a hF
   exact ⟨_, _, _, _, hF, hM, hc1', hc2', hrow', by omega, hU'⟩
  have n116 := eq_f (d := 116) rfl ht
  refine Sq (Rg (Md 2 [0,3,4,44,82] rfl (Nx (Ce rfl (fun ht => ?_) ((fun ht => ?_))))))
  ·
   have n34 := eq_f (d := 34) rfl ht
   refine Sq (Rg (Md 2 [0,3,4,87] rfl (Nx (Cd rfl (fun ht => absurd (eq_t (d := 117) rfl ht) (esc_117 hd)) ((fun ht => ?_))))))
   exact absurd hd (by simp [escLetter, n92, n47, n98, n102, n110, n114, n116, n34])
  obtain rfl := eq_t (d := 34) rfl ht
  have hU' : Un s (i + 1 + 1) (out ++ [34]) := hU.esc ht_ (by decide) hr
  refine Rg (Mv 1 rfl ?_); intro a hF
  refine op_build hF hM rfl (m := 1) (parts := [(0, .const (.int .u8 34))]) (vals := [(0, .int .u8 34)]) [.int .u8 34] rfl rfl rfl rfl (by decide) (by decide) (by kernel_rfl) ?_; clear hF hM a; intro a w b2 hF hM
  refine op_append (k := 1) hF hM rfl [.int .u8 34] rfl rfl rfl rfl rfl rfl hc1 hc2 rfl (fun j u hj => hM.cells (k := 0) rfl j hj) (fun u hu => by rw [List.mem_singleton.1 hu]; rfl) (by omega) ?_
  clear hF hM a; intro a w bq vq hF hc1' hc2' hrow' hM
  replace hM := hM.drop (L' := [(bq, 5, vq)]) (List.Sublist.cons₂ _ (List.nil_sublist _))
  rw [hrow, show [.int .u8 34] = u8s [34] from rfl, ← u8s_append, show out.length + 1 = (out ++ [34]).length by simp] at hrow'
  rw [show out.length + 1 = (out ++ [34]).length by simp] at hF hc1'
  revert a; refine Md 1 [0,3,4] rfl (Nb (Nb (Nb (Kp [0,3,4] rfl ?_)))); intro a hF
  exact ⟨_, _, _, _, hF, hM, hc1', hc2', hrow', by omega, hU'⟩
 have hget : ∀ j, s[i + j]? = (92 :: 117 :: a1 :: b1 :: c1 :: d1 :: r)[j]? := fun j => by rw [← ht_, List.getElem?_drop]
 have hle6 : i + 6 ≤ s.length := le_of (t := [92, 117, a1, b1, c1, d1]) ht_ (by simp)
 have hd2 : s.drop (i + 2) = a1 :: b1 :: c1 :: d1 :: r := drop_of (t := [92, 117]) ht_
 obtain ⟨n, hnn⟩ : ∃ n, n = hexN [a1, b1, c1, d1] := ⟨_, rfl⟩
 have h4 : hexN ((s.drop (i + 2)).take 4) = n := by rw [hd2, hnn]; rfl
 have hn : hex4 a1 b1 c1 d1 = some n := by rw [hnn]; exact hex4_hexN hx
 have hn16 : n < 65536 := by rw [hnn]; have := hexN_lt _ hx; simpa using this
 have hd6 : s.drop (i + 6) = r := drop_of (t := [92, 117, a1, b1, c1, d1]) ht_
 have hg6 : ∀ j, s[i + 6 + j]? = r[j]? := fun j => by rw [← hd6, List.getElem?_drop]
 refine Rg (Mv 2 rfl ?_); intro a hF
 refine op_index_str hF rfl (i) 92 rfl rfl rfl Tryz.underlying9 rfl rfl (by first | rfl | omega) (hget 0) ?_; clear hF a; intro a hF
 revert a; refine Md 2 [0,3,4,22] rfl (Nx (C1 rfl (fun ht => absurd ht (by decide)) (Sq (Rg (Mv 2 rfl ?_))))); intro a hF
 refine op_index_str hF rfl (i) 92 rfl rfl rfl Tryz.underlying9 rfl rfl (by first | rfl | omega) (hget 0) ?_; clear hF a; intro a hF
 revert a; refine Md 2 [0,3,4,29] rfl (Nx (D2 rfl (fun ht => absurd ht (by decide)) (Sq (Rg (Mv 1 rfl (Sm (((i + 1 : Nat) : Int)) rfl (by omega) (Md 1 [0,3,4] rfl (Nx (Sq (Sq (Rg (Md 4 [0,3,4,39] rfl (Nx (C1 rfl (fun ht => absurd (of_decide_eq_true ht) (by omega)) (Sk (Nx (Sq (Rg (Mv 2 rfl ?_))))))))))))))))))); intro a hF
 refine op_index_str hF rfl (i + 1) 117 rfl rfl rfl Tryz.underlying9 rfl rfl (by first | rfl | omega) (hget 1) ?_; clear hF a; intro a hF
 revert a; refine Md 0 [0,3,4,44] rfl (Nx (Bo (Sq (Rg (Md 2 [0,3,4,44,47] rfl (Nx (C1 rfl (fun ht => absurd ht (by decide)) (Sq (Rg (Md 2 [0,3,4,44,52] rfl (Nx (C1 rfl (fun ht => absurd ht (by decide)) (Sq (Rg (Md 2 [0,3,4,44,57] rfl (Nx (C1 rfl (fun ht => absurd ht (by decide)) (Sq (Rg (Md 2 [0,3,4,44,62] rfl (Nx (C1 rfl (fun ht => absurd ht (by decide)) (Sq (Rg (Md 2 [0,3,4,44,67] rfl (Nx (C1 rfl (fun ht => absurd ht (by decide)) (Sq (Rg (Md 2 [0,3,4,44,72] rfl (Nx (C1 rfl (fun ht => absurd ht (by decide)) (Sq (Rg (Md 2 [0,3,4,44,77] rfl (Nx (C1 rfl (fun ht => absurd ht (by decide)) (Sq (Rg (Md 2 [0,3,4,44,82] rfl (Nx (C1 rfl (fun ht => absurd ht (by decide)) (Sq (Rg (Md 2 [0,3,4,87] rfl (Nx (D2 rfl (fun ht => absurd ht (by decide)) (Sq (Sq (Rg (Mv 1 rfl (Sm (((i + 6 : Nat) : Int)) rfl (by omega) (Md 3 [0,3,4,93] rfl (Nx (C1 rfl (fun ht => absurd (of_decide_eq_true ht) (by omega)) (Sk (Nx (Sq (Rg (Mv 2 rfl (Sm (((i + 2 : Nat) : Int)) rfl (by omega) ?_))))))))))))))))))))))))))))))))))))))))))))))))))))))))))))); intro a hF
 refine op_sliceFrom_str hF rfl (i + 2) rfl rfl rfl Tryz.underlying9 rfl rfl (by first | rfl | omega) (by omega) ?_; clear hF a; intro a hF
 revert a; refine Cm hM rfl Tryz.func163 (by kernel_rfl) rfl (runeit_walk (s.drop (i + 2)) w (by rw [hd2]; simp) (by rw [hd2]; exact hx)) ?_
 clear hM; intro w v hR hM hBe
 obtain rfl := hR
 intro a hF
 rw [h4] at hF
 revert a; refine Md 1 [0,3,4,5] rfl (Nx (Sq (Rg (Mv 1 rfl (Sm (((i + 6 : Nat) : Int)) rfl (by omega) (Md 1 [0,3,4,5] rfl (Nx ?_))))))); intro a hF
 refine cutF (fun a w => ∃ rr i2 : Nat, Fr 153 [(0, .string (mkS s)), (3, .slice (some ⟨b, 0, none⟩) out.length vs.length), (4, .int .i64 (i2 : Int)), (5, .int .i32 (rr : Int))] a ∧ Mem w0.heap.size w0 [(b, 5, vs)] w ∧ rr ≤ 1114111 ∧ i + 6 ≤ i2 ∧ Un s i2 (out ++ enc rr)) (fun a w h => ?_) ?_
 ·
  clear hF hM
  obtain ⟨rr, i2, hF, hM, hrr, hi2, hU2⟩ := h
  have hle2 := hU2.le
  revert a; refine Sq (Rg (Mv 1 rfl ?_)); intro a hF
  refine op_build hF hM rfl (m := 8) (parts := [(0, .const (.int .u8 0)), (1, .const (.int .u8 0)), (2, .const (.int .u8 0)), (3, .const (.int .u8 0)), (4, .const (.int .u8 0)), (5, .const (.int .u8 0)), (6, .const (.int .u8 0)), (7, .const (.int .u8 0))]) (vals := [(0, .int .u8 0), (1, .int .u8 0), (2, .int .u8 0), (3, .int .u8 0), (4, .int .u8 0), (5, .int .u8 0), (6, .int .u8 0), (7, .int .u8 0)]) [.int .u8 0, .int .u8 0, .int .u8 0, .int .u8 0, .int .u8 0, .int .u8 0, .int .u8 0, .int .u8 0] rfl rfl rfl rfl (by decide) (by decide) (by kernel_rfl) ?_; clear hF hM a; intro a w bz hF hM
  refine op_append (k := 1) hF hM rfl [.int .u8 0, .int .u8 0, .int .u8 0, .int .u8 0, .int .u8 0, .int .u8 0, .int .u8 0, .int .u8 0] rfl rfl rfl rfl rfl rfl hc1 hc2 rfl (fun j u hj => hM.cells (k := 0) rfl j hj) (u8s_one [0, 0, 0, 0, 0, 0, 0, 0]) (by omega) ?_
  clear hF hM a; intro a w bq vq hF hcq hc2' hrow8 hM
  replace hM := hM.drop (L' := [(bq, 5, vq)]) (List.Sublist.cons₂ _ (List.nil_sublist _))
  revert a; refine Md 1 [0,3,4,5] rfl (Nx (Sq (Rg (Mv 3 rfl (Sm ((out.length : Int)) rfl (by omega) ?_))))); intro a hF
  refine op_slice_slFrom hF rfl out.length rfl rfl rfl rfl rfl rfl (by omega) (by omega) ?_; clear hF a; intro a hF
  rw [Nat.zero_add, Nat.add_sub_cancel_left] at hF
  revert a; refine Mv 1 rfl ?_; intro a hF
  refine op_call hF rfl rfl rfl rfl Tryz.func166 (by kernel_rfl) rfl rfl (encode_walk rr w hM hrr (by omega)) ?_
  clear hF hM a; intro a w v hR hF; obtain ⟨rfl, hM⟩ := hR
  have hel := enc_len rr
  revert a; refine Md 1 [0,3,4,6] rfl (Nx (Sq (Rg (Mv 3 rfl (Sm ((out.length : Int)) rfl (by omega) (Mv 1 rfl (Sm (((out.length + (enc rr).length : Nat) : Int)) rfl (by omega) ?_))))))); intro a hF
  refine op_slice_slTo hF rfl (out.length + (enc rr).length) rfl rfl rfl rfl rfl rfl (by omega) ?_; clear hF a; intro a hF
  revert a; refine Md 1 [0,3,4] rfl (Nx (Rg (Mv 1 rfl (Sm (((i2 - 1 : Nat) : Int)) rfl (by omega) (Md 1 [0,3,4] rfl ?_)))))
  obtain ⟨hvl, hrow'⟩ := row_enc hrow hrow8 hcq hel
  generalize vq.take out.length ++ u8s (enc rr) ++ vq.drop (out.length + (enc rr).length) = vz at hvl hrow' hM
  intro a hF
  rw [show out.length + (enc rr).length = (out ++ enc rr).length by simp, ← hvl] at hF
  have hc1' : (out ++ enc rr).length ≤ vz.length := by rw [hvl]; simp; omega
  rw [← hvl] at hc2'
  have hU' : Un s (i2 - 1 + 1) (out ++ enc rr) := by rw [show i2 - 1 + 1 = i2 by omega]; exact hU2
  revert a; refine Nb (Nb (Nb (Kp [0,3,4] rfl ?_))); intro a hF
  exact ⟨_, _, _, _, hF, hM, hc1', hc2', hrow', by omega, hU'⟩
 revert a; refine Sq (Rg (Mv 1 rfl (Cm hM rfl Tryz.func164 (by kernel_rfl) rfl (isSurrogate_walk n w) ?_)))
 clear hM; intro w v hR hM hBe
 obtain rfl := hR
 refine Md 0 [0,3,4,5,104] rfl (Nx (Ce rfl (fun ht => ?_) ((fun ht => ?_))))
 ·
  have hs2 : (high n || low n) = false := ht
  have hU2 := hU.uni ht_ hn hr (.inl hs2)
  have hrr : n ≤ 1114111 := by omega
  refine Sk (Kp [0,3,4,5] rfl ?_); intro a hF
  exact ⟨_, _, hF, hM, hrr, by omega, hU2⟩
 have hs2 : (high n || low n) = true := ht
 refine Sq ?_
 rcases next_cases hr with ⟨a2, b2, c2, d2, r2, hre, hx2, hr2⟩ | ⟨hun, hl6⟩ | ⟨hun, hl6, y, r', hre, hy⟩ | ⟨hun, hl6, y, r', hre, hy⟩
 ·
  subst hre
  have hl6 : 6 ≤ (92 :: 117 :: a2 :: b2 :: c2 :: d2 :: r2 : Str).length := by simp
  have hd8 : s.drop (i + 8) = a2 :: b2 :: c2 :: d2 :: r2 := drop_of (t := [92, 117, a1, b1, c1, d1, 92, 117]) ht_
  obtain ⟨m, hmm⟩ : ∃ m, m = hexN [a2, b2, c2, d2] := ⟨_, rfl⟩
  have h4' : hexN ((s.drop (i + 8)).take 4) = m := by rw [hd8, hmm]; rfl
  have hm : hex4 a2 b2 c2 d2 = some m := by rw [hmm]; exact hex4_hexN hx2
  have hm16 : m < 65536 := by rw [hmm]; have := hexN_lt _ hx2; simpa using this
  have hU2 := hU.pair ht_ hn hm hr2 hs2
  have hle12 := hU2.le
  have hrr : Js.pair n m ≤ 1114111 := by unfold Js.pair; split <;> rename_i h <;> simp [high, low] at h <;> omega
  refine Rg (Mv 2 rfl ?_); intro a hF
  refine op_sliceFrom_str hF rfl (i + 6) rfl rfl rfl Tryz.underlying9 rfl rfl (by first | rfl | omega) (by omega) ?_; clear hF a; intro a hF
  revert a; refine Mv 1 rfl (Bv rfl rfl (decide_eq_true (show (((s.drop (i + 6)).length : Int) ≥ 6) by rw [hd6]; omega)) (Mv 3 rfl ?_)); intro a hF
  refine guard_yes hF rfl rfl rfl rfl rfl rfl ?_
  refine op_index_str hF rfl (i + 6) 92 rfl rfl rfl Tryz.underlying9 rfl rfl (by first | rfl | omega) (hg6 0) ?_; clear hF a; intro a hF
  revert a; refine Bv rfl rfl (beq_t (d := 92) (z := 92) rfl rfl) (Mv 4 rfl (Sm (((i + 7 : Nat) : Int)) rfl (by omega) ?_)); intro a hF
  refine guard_yes hF rfl rfl rfl rfl rfl rfl ?_
  refine op_index_str hF rfl (i + 7) 117 rfl rfl rfl Tryz.underlying9 rfl rfl (by first | rfl | omega) (hg6 1) ?_; clear hF a; intro a hF
  revert a; refine Bv rfl rfl (beq_t (d := 117) (z := 117) rfl rfl) (Md 1 [0,3,4,5,122] rfl (Nx (Ct rfl (Sq (Rg (Mv 3 rfl (Sm (((i + 8 : Nat) : Int)) rfl (by omega) ?_))))))); intro a hF
  refine op_sliceFrom_str hF rfl (i + 8) rfl rfl rfl Tryz.underlying9 rfl rfl (by first | rfl | omega) (by omega) ?_; clear hF a; intro a hF
  revert a; refine Cm hM rfl Tryz.func163 (by kernel_rfl) rfl (runeit_walk (s.drop (i + 8)) w (by rw [hd8]; simp) (by rw [hd8]; exact hx2)) ?_
  clear hM; intro w v hR hM hBe
  obtain rfl := hR
  intro a hF
  rw [h4'] at hF
  revert a; refine Cm hM rfl Tryz.func165 (by kernel_rfl) rfl (decodePair_walk n m w hn16 hm16) ?_
  clear hM; intro w v hR hM hBe
  obtain rfl := hR
  refine Md 1 [0,3,4,5] rfl (Nx (Rg (Mv 1 rfl (Sm (((i + 12 : Nat) : Int)) rfl (by omega) (Md 1 [0,3,4,5] rfl ?_))))); intro a hF
  exact ⟨_, _, hF, hM, hrr, by omega, hU2⟩
 ·
  have hU2 := hU.uni ht_ hn hr (.inr hun)
  have hrr : n ≤ 1114111 := by omega
  refine Rg (Mv 2 rfl ?_); intro a hF
  refine op_sliceFrom_str hF rfl (i + 6) rfl rfl rfl Tryz.underlying9 rfl rfl (by first | rfl | omega) (by omega) ?_; clear hF a; intro a hF
  revert a; refine Mv 1 rfl (Bv rfl rfl (decide_eq_false (show ¬ (((s.drop (i + 6)).length : Int) ≥ 6) by rw [hd6]; omega)) (Md 13 [0,3,4,5,122] rfl (Nx (Cf rfl (Sk (Kp [0,3,4,5] rfl ?_)))))); intro a hF
  exact ⟨_, _, hF, hM, hrr, by omega, hU2⟩
 ·
  subst hre
  have hU2 := hU.uni ht_ hn hr (.inr hun)
  have hrr : n ≤ 1114111 := by omega
  refine Rg (Mv 2 rfl ?_); intro a hF
  refine op_sliceFrom_str hF rfl (i + 6) rfl rfl rfl Tryz.underlying9 rfl rfl (by first | rfl | omega) (by omega) ?_; clear hF a; intro a hF
  revert a; refine Mv 1 rfl (Bv rfl rfl (decide_eq_true (show (((s.drop (i + 6)).length : Int) ≥ 6) by rw [hd6]; omega)) (Mv 3 rfl ?_)); intro a hF
  refine guard_yes hF rfl rfl rfl rfl rfl rfl ?_
  refine op_index_str hF rfl (i + 6) y rfl rfl rfl Tryz.underlying9 rfl rfl (by first | rfl | omega) (hg6 0) ?_; clear hF a; intro a hF
  revert a; refine Bv rfl rfl (beq_f (d := 92) (z := 92) rfl hy) (Md 8 [0,3,4,5,122] rfl (Nx (Cf rfl (Sk (Kp [0,3,4,5] rfl ?_))))); intro a hF
  exact ⟨_, _, hF, hM, hrr, by omega, hU2⟩
 subst hre
 have hU2 := hU.uni ht_ hn hr (.inr hun)
 have hrr : n ≤ 1114111 := by omega
 refine Rg (Mv 2 rfl ?_); intro a hF
 refine op_sliceFrom_str hF rfl (i + 6) rfl rfl rfl Tryz.underlying9 rfl rfl (by first | rfl | omega) (by omega) ?_; clear hF a; intro a hF
 revert a; refine Mv 1 rfl (Bv rfl rfl (decide_eq_true (show (((s.drop (i + 6)).length : Int) ≥ 6) by rw [hd6]; omega)) (Mv 3 rfl ?_)); intro a hF
 refine guard_yes hF rfl rfl rfl rfl rfl rfl ?_
 refine op_index_str hF rfl (i + 6) 92 rfl rfl rfl Tryz.underlying9 rfl rfl (by first | rfl | omega) (hg6 0) ?_; clear hF a; intro a hF
 revert a; refine Bv rfl rfl (beq_t (d := 92) (z := 92) rfl rfl) (Mv 4 rfl (Sm (((i + 7 : Nat) : Int)) rfl (by omega) ?_)); intro a hF
 refine guard_yes hF rfl rfl rfl rfl rfl rfl ?_
 refine op_index_str hF rfl (i + 7) y rfl rfl rfl Tryz.underlying9 rfl rfl (by first | rfl | omega) (hg6 1) ?_; clear hF a; intro a hF
 revert a; refine Bv rfl rfl (beq_f (d := 117) (z := 117) rfl hy) (Md 1 [0,3,4,5,122] rfl (Nx (Cf rfl (Sk (Kp [0,3,4,5] rfl ?_))))); intro a hF
 exact ⟨_, _, hF, hM, hrr, by omega, hU2⟩
end Go.Sx
