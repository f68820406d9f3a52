/- Texts that are UTF-8: the walk of the test. -/
import Derived.Test.YthejejeginnbdaaGreatDoorProg
import Derived.Test.YthejejeginnbdaaGreatDoorFdV
import Derived.Test.YthejejeginnbdaaGreatDoorTxt
import Derived.Laws.IdiomStrings
import Derived.Laws.Cover4
import Derived.Laws.BytesArg
import Derived.Lib.MapLaws
import Derived.WalkKit
import Derived.WalkMore
set_option linter.unusedVariables false
set_option linter.unusedSimpArgs false
namespace Go.Proofs.YthejejeginnbdaaGreatDoor.FdT
open Go Go.RowKit Go.Proofs.YthejejeginnbdaaGreatDoorW.PrintWords Go.Proofs.YthejejeginnbdaaGreatDoor.Txt Go.Proofs.YthejejeginnbdaaGreatDoor Go.Proofs.YthejejeginnbdaaGreatDoor.EscN
open Go.Lib (decodeL decodeL_le encodeRune encodeRuneZ_one encodeRuneZ_two encodeRuneZ_three encodeRuneZ_four encodeRuneZ_bad)

def zs : Nat → List UInt8 → List Int
  | 0, _ => []
  | n + 1, l => if l = [] then [] else ((decodeL l).1 : Int) :: zs n (l.drop (decodeL l).2)
theorem zs_len : ∀ (n : Nat) (l : List UInt8), (zs n l).length ≤ n
  | 0, _ => Nat.le_refl _
  | n + 1, l => by
    rw [zs]
    split
    · exact Nat.zero_le _
    · rw [List.length_cons]; have := zs_len n (l.drop (decodeL l).2); omega
theorem runes_zs (s : ByteArray) : ∀ (n i : Nat) (acc : Array Value), i ≤ s.size → Conv.runesFrom s n i acc = acc ++ ((zs n (s.data.toList.drop i)).map (Value.int .i32)).toArray
  | 0, i, acc, _ => by simp [Conv.runesFrom, zs]
  | n + 1, i, acc, hi => by
    rw [Conv.runesFrom, zs]
    by_cases h : i < s.size
    · have hne : s.data.toList.drop i ≠ [] := by
        intro e
        have := congrArg List.length e
        rw [List.length_drop, ← size_len] at this
        simp at this
        omega
      have hd := decode_drop s i hi
      have hw := decodeL_le (s.data.toList.drop i) hne
      rw [List.length_drop, ← size_len] at hw
      rw [if_pos h, if_neg hne]
      show Conv.runesFrom s n (i + (Utf8.decode s i).2) (acc.push (.int .i32 (Int.ofNat (Utf8.decode s i).1))) = _
      rw [hd, runes_zs s n _ _ (by omega), List.drop_drop]
      apply Array.toList_inj.1
      simp
    · have he : s.data.toList.drop i = [] := List.drop_eq_nil_of_le (by rw [← size_len]; omega)
      rw [if_neg h, if_pos he]; simp
set_option maxRecDepth 1000000 in
theorem encode_eq (r : Int) : (Utf8.encode r).data.toList = encodeRune r := by
  have hb : ∀ n : Nat, ((n : Int)).toNat.toUInt8 = UInt8.ofNat n := fun n => by simp
  unfold encodeRune
  by_cases hv : Utf8.valid r = true
  · obtain ⟨n, rfl⟩ : ∃ n : Nat, r = n := by
      unfold Utf8.valid at hv
      simp only [Bool.or_eq_true, Bool.and_eq_true, decide_eq_true_eq] at hv
      exact ⟨r.toNat, by omega⟩
    unfold Utf8.encode
    rw [if_pos hv]
    unfold Utf8.valid at hv
    simp only [Bool.or_eq_true, Bool.and_eq_true, decide_eq_true_eq] at hv
    simp only [Int.toNat_natCast]
    by_cases h1 : n < 128
    · rw [if_pos h1, encodeRuneZ_one (by omega) (by omega)]
      simp
    · rw [if_neg h1]
      by_cases h2 : n < 2048
      · rw [if_pos h2, encodeRuneZ_two (by omega) (by omega)]
        simp only [List.map_cons, List.map_nil]
        rw [show (192 + (n : Int) / 64) = ((192 + n / 64 : Nat) : Int) by omega, show (128 + (n : Int) % 64) = ((128 + n % 64 : Nat) : Int) by omega, hb, hb]
      · rw [if_neg h2]
        by_cases h3 : n < 65536
        · rw [if_pos h3, encodeRuneZ_three (by omega)]
          simp only [List.map_cons, List.map_nil]
          rw [show (224 + (n : Int) / 4096) = ((224 + n / 4096 : Nat) : Int) by omega, show (128 + (n : Int) / 64 % 64) = ((128 + n / 64 % 64 : Nat) : Int) by omega, show (128 + (n : Int) % 64) = ((128 + n % 64 : Nat) : Int) by omega, hb, hb, hb]
        · rw [if_neg h3, encodeRuneZ_four (by omega) (by omega)]
          simp only [List.map_cons, List.map_nil]
          rw [show (240 + (n : Int) / 262144) = ((240 + n / 262144 : Nat) : Int) by omega, show (128 + (n : Int) / 4096 % 64) = ((128 + n / 4096 % 64 : Nat) : Int) by omega, show (128 + (n : Int) / 64 % 64) = ((128 + n / 64 % 64 : Nat) : Int) by omega, show (128 + (n : Int) % 64) = ((128 + n % 64 : Nat) : Int) by omega, hb, hb, hb, hb]
  · have hbad : r < 0 ∨ (55296 ≤ r ∧ r ≤ 57343) ∨ 1114111 < r := by
      unfold Utf8.valid at hv
      simp only [Bool.or_eq_true, Bool.and_eq_true, decide_eq_true_eq] at hv
      omega
    rw [encodeRuneZ_bad hbad]
    unfold Utf8.encode
    rw [if_neg hv]
    rfl
theorem bytes_fold : ∀ (ns : List Int) (r : ByteArray), (ns.foldl (fun r n => r ++ Utf8.encode n) r).data.toList = r.data.toList ++ (ns.map encodeRune).flatten
  | [], r => by simp
  | n :: ns, r => by
    rw [List.foldl_cons, bytes_fold ns, data_append, encode_eq, List.map_cons, List.flatten_cons, List.append_assoc]
theorem zs_cat : ∀ (n : Nat) (l : List UInt8), ((zs n l).map encodeRune).flatten = cat n l
  | 0, _ => rfl
  | n + 1, l => by
    rw [zs, cat]
    by_cases h : l = []
    · rw [if_pos h, if_pos h]; rfl
    · rw [if_neg h, if_neg h, List.map_cons, List.flatten_cons, zs_cat n]
set_option maxRecDepth 100000 in
set_option maxHeartbeats 4000000 in
theorem plain_any (s : ByteArray) (hs : s.size ≤ 8589934592) : ∃ b : Bool, (b = true → Val s.data.toList) ∧ ∀ w, Calls Tryz.prog 6 #[.string s] w fun e w' => e = .returned (.bool b) ∧ Below w.heap.size w w' := by
  have hz := size_len s
  refine ⟨((runesBytes (zs s.size s.data.toList)).toList == s.toList), fun hb => ?_, fun w => ?_⟩
  · have h1 := beq_iff_eq.1 hb
    rw [toL, toL] at h1
    have h2 : (runesBytes (zs s.size s.data.toList)).data.toList = cat s.size s.data.toList := by
      unfold runesBytes
      rw [bytes_fold, zs_cat]
      rfl
    rw [h2] at h1
    exact (cat_val s.size s.data.toList (by omega)).2 (by rw [h1])
  · have hr := runes_zs s s.size 0 #[] (Nat.zero_le _)
    rw [List.drop_zero] at hr
    have hr' : Conv.runesFrom s s.size 0 #[] = ((zs s.size s.data.toList).map (Value.int .i32)).toArray := by rw [hr]; simp
    have hzl := zs_len s.size s.data.toList
    have hcv1 := run_runes_of_string (P := Tryz.prog) w 9 45 21 s Tryz.underlying9 Tryz.underlying45 Tryz.underlying21 (by rw [hr']; simp; omega)
    rw [hr'] at hcv1
    clear hr hr'
    generalize zs s.size s.data.toList = ns at hcv1 hzl ⊢
    simp only [List.size_toArray, List.length_map] at hcv1
    generalize grownCap w ns.length 0 21 = cap at hcv1
    generalize hW1 : w.drew.alloc (.cells ((ns.map (Value.int .i32)).toArray ++ Array.replicate (cap - ns.length) (.int .i32 0)) 21) = W1 at hcv1
    have hcv2 := run_convert_runes (P := Tryz.prog) W1 45 9 21 ⟨w.heap.size, 0, none⟩ ns.length cap ns (Nat.le_refl _) Tryz.underlying45 Tryz.underlying21 Tryz.underlying9 (fun j hj => by
      have hblk := blk_new w.drew (.cells ((ns.map (Value.int .i32)).toArray ++ Array.replicate (cap - ns.length) (.int .i32 0)) 21)
      rw [hW1] at hblk
      have := blk_cell hblk j
      rw [Addr.add_lit, Nat.zero_add]
      refine this.trans ?_
      rw [Array.getElem?_append_left (by simpa using hj)]
      simp [List.getElem?_eq_getElem hj, List.getD, hj])
    rw [List.take_length] at hcv2
    have HB : Aside0 (Below w.heap.size w W1) := ⟨by rw [← hW1]; exact below_alloc (below_drew1 (Below.refl _ _)) _⟩
    clear hW1 hz hs hzl
    generalize runesBytes ns = rb at hcv2 ⊢
    go_enter Tryz.func6, Tryz.ntmps6
    go_wp2
    go_ret
    exact ⟨rfl, HB.out⟩
end Go.Proofs.YthejejeginnbdaaGreatDoor.FdT
