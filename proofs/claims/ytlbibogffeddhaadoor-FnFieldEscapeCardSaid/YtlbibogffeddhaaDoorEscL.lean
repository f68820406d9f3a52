/- A value is escaped sign by sign, and unescaped to itself: the law's walk. -/
import Derived.Test.YtlbibogffeddhaaDoorEscW
import Derived.Test.YtlbibogffeddhaaDoorSmall
import Derived.Test.YtlbibogffeddhaaDoorEvs
import Derived.Laws.IdiomStrings
import Derived.Laws.Cover4
import Derived.Laws.BytesArg
set_option linter.unusedVariables false
set_option linter.unusedSimpArgs false
namespace Go.Proofs.YtlbibogffeddhaaDoor.Esc
open Go Go.RowKit Go.Proofs.YtlbibogffeddhaaDoorW.PrintWords Go.Proofs.YtlbibogffeddhaaDoor.PFnFieldEscape Go.Proofs.YtlbibogffeddhaaDoor.Txt Go.Proofs.YtlbibogffeddhaaDoor Go.Proofs.YtlbibogffeddhaaDoor.EscN
open Go.Lib (decodeL decodeL_le encodeRune encodeRuneZ_one encodeRuneZ_two encodeRuneZ_three encodeRuneZ_four encodeRuneZ_bad)

/-- Bytes as numbers. -/
def nums (l : List UInt8) : List Int := l.map (fun c => (c.toNat : Int))
theorem nums_str (l : List UInt8) : strOfNums (nums l) = ⟨l.toArray⟩ := by
  apply ext
  unfold strOfNums nums
  rw [data_mk, data_mk, List.map_map]
  have : ((fun n : Int => UInt8.ofNat n.toNat) ∘ fun c : UInt8 => (c.toNat : Int)) = id := by
    funext c; simp
  rw [this, List.map_id]
theorem nums_append (a b : List UInt8) : nums (a ++ b) = nums a ++ nums b := by unfold nums; rw [List.map_append]
theorem nums_len (l : List UInt8) : (nums l).length = l.length := by unfold nums; rw [List.length_map]
theorem bt_eq {c d : UInt8} {n : Int} (hn : (d.toNat : Int) = n) : ((c.toNat : Int) = n) ↔ c = d := ⟨fun h => UInt8.toNat_inj.1 (by omega), fun h => by rw [h]; exact hn⟩

theorem eq92 (c : UInt8) : ((c.toNat : Int) = 92) ↔ c = 92 := bt_eq (d := 92) (n := 92) rfl
theorem eq44 (c : UInt8) : ((c.toNat : Int) = 44) ↔ c = 44 := bt_eq (d := 44) (n := 44) rfl
theorem eq61 (c : UInt8) : ((c.toNat : Int) = 61) ↔ c = 61 := bt_eq (d := 61) (n := 61) rfl
theorem escape_f (s : ByteArray) (hs : s.size ≤ 2147483647) : Ev (fun k => fields_EscapeValue.f k s) ⟨(esc s.data.toList).toArray⟩ := by
  have hz := size_len s
  have step : ∀ n i : Nat, i + n = s.data.toList.length → Ev (fun k => fields_EscapeValue.l0 k s (nums (esc (s.data.toList.take i))) (i : Int)) ⟨(esc s.data.toList).toArray⟩ := by
    intro n
    induction n with
    | zero =>
      intro i hi
      refine Evs.at1 fun k => ?_
      rw [fields_EscapeValue.l0, if_neg (by omega), List.take_of_length_le (by omega), nums_str]
    | succ n ih =>
      intro i hi
      have h : i < s.data.toList.length := by omega
      have ht : s.data.toList.take (i + 1) = s.data.toList.take i ++ [s.data.toList[i]] := List.take_succ_eq_append_getElem h
      have go := ih (i + 1) (by omega)
      have hl := esc_len (s.data.toList.take i)
      rw [List.length_take] at hl
      have hll : (nums (esc (s.data.toList.take i))).length ≤ 4294967296 := by rw [nums_len]; omega
      refine Ev.step (fun k => ?_) go
      have hb := bt_nat s i h
      by_cases hc : sign s.data.toList[i] = true
      · have e : nums (esc (s.data.toList.take (i + 1))) = (nums (esc (s.data.toList.take i)) ++ [92]) ++ [(s.data.toList[i].toNat : Int)] := by
          rw [ht, esc_snoc, if_pos hc, nums_append, List.append_assoc]; rfl
        have hl2 : (nums (esc (s.data.toList.take i)) ++ [92]).length < 140737488355328 := by simp; omega
        rcases sign_cases hc with h1 | h1 | h1
        · rw [fields_EscapeValue.l0, if_pos (by omega), if_pos (by omega), hb, if_pos (by rw [h1]; rfl), if_pos (by omega), Option.bind_some, if_pos hl2, ← e, Small.w64s i (by omega)]
        · rw [fields_EscapeValue.l0, if_pos (by omega), if_pos (by omega), hb, if_neg (by rw [h1]; decide), if_pos (by rw [h1]; rfl), if_pos (by omega), Option.bind_some, if_pos hl2, ← e, Small.w64s i (by omega)]
        · rw [fields_EscapeValue.l0, if_pos (by omega), if_pos (by omega), hb, if_neg (by rw [h1]; decide), if_neg (by rw [h1]; decide), if_pos (by rw [h1]; rfl), if_pos (by omega), Option.bind_some, if_pos hl2, ← e, Small.w64s i (by omega)]
      · have e : nums (esc (s.data.toList.take (i + 1))) = nums (esc (s.data.toList.take i)) ++ [(s.data.toList[i].toNat : Int)] := by
          rw [ht, esc_snoc, if_neg hc, nums_append]; rfl
        have hn : s.data.toList[i] ≠ 92 ∧ s.data.toList[i] ≠ 44 ∧ s.data.toList[i] ≠ 61 := by
          unfold sign at hc
          simp only [Bool.or_eq_true, beq_iff_eq, not_or] at hc
          exact ⟨hc.1.1, hc.1.2, hc.2⟩
        rw [fields_EscapeValue.l0, if_pos (by omega), if_pos (by omega), hb, if_neg (fun h => hn.1 ((eq92 _).1 h)), if_neg (fun h => hn.2.1 ((eq44 _).1 h)), if_neg (fun h => hn.2.2 ((eq61 _).1 h)), if_pos (by omega), ← e, Small.w64s i (by omega)]
  exact step s.data.toList.length 0 (by omega)
theorem impl_f (s : ByteArray) (hs : s.size ≤ 2147483647) : Ev (fun k => impl_FieldEscape.f k s) ⟨(esc s.data.toList).toArray⟩ := by
  unfold impl_FieldEscape.f
  exact Ev.bind (escape_f s hs) ⟨0, fun _ _ => rfl⟩
theorem sign_f (c : UInt8) : spec_fieldSign.f (c.toNat : Int) = some (sign c) := by
  unfold spec_fieldSign.f sign
  by_cases h1 : c = 92
  · rw [if_pos ((eq92 _).2 h1), h1]; rfl
  by_cases h2 : c = 44
  · rw [if_neg (fun h => h1 ((eq92 _).1 h)), if_pos ((eq44 _).2 h2), h2]; rfl
  rw [if_neg (fun h => h1 ((eq92 _).1 h)), if_neg (fun h => h2 ((eq44 _).1 h)), beq_eq_false_iff_ne.2 h1, beq_eq_false_iff_ne.2 h2, Bool.false_or, Bool.false_or]
  congr 1
  rw [Bool.eq_iff_iff, beq_iff_eq, beq_iff_eq]
  exact eq61 c
theorem spec_f (s : ByteArray) (hs : s.size ≤ 2147483647) : Ev (fun k => spec_Escape.f k s) ⟨(esc s.data.toList).toArray⟩ := by
  have hz := size_len s
  have step : ∀ n i : Nat, i + n = s.data.toList.length → Ev (fun k => spec_Escape.l0 k s ⟨(esc (s.data.toList.take i)).toArray⟩ (i : Int)) ⟨(esc s.data.toList).toArray⟩ := by
    intro n
    induction n with
    | zero =>
      intro i hi
      refine Evs.at1 fun k => ?_
      rw [spec_Escape.l0, if_neg (by omega), List.take_of_length_le (by omega)]
    | succ n ih =>
      intro i hi
      have h : i < s.data.toList.length := by omega
      have ht : s.data.toList.take (i + 1) = s.data.toList.take i ++ [s.data.toList[i]] := List.take_succ_eq_append_getElem h
      have go := ih (i + 1) (by omega)
      have hl := esc_len (s.data.toList.take i)
      rw [List.length_take] at hl
      have hsz : (⟨(esc (s.data.toList.take i)).toArray⟩ : ByteArray).size ≤ 4294967296 := by rw [size_len, data_mk]; omega
      have hone : strOfNums [(s.data.toList[i].toNat : Int)] = ⟨#[s.data.toList[i]]⟩ := nums_str [s.data.toList[i]]
      refine Ev.step (fun k => ?_) go
      have hb := bt_nat s i h
      have h92 : (⟨#[92]⟩ : ByteArray).size = 1 := rfl
      have hc1 : (⟨#[s.data.toList[i]]⟩ : ByteArray).size = 1 := rfl
      by_cases hc : sign s.data.toList[i] = true
      · have e : (⟨(esc (s.data.toList.take (i + 1))).toArray⟩ : ByteArray) = ((⟨(esc (s.data.toList.take i)).toArray⟩ : ByteArray) ++ (⟨#[92]⟩ : ByteArray)) ++ (⟨#[s.data.toList[i]]⟩ : ByteArray) := by
          apply ext
          rw [data_append, data_append]
          show esc _ = (esc _ ++ [92]) ++ [s.data.toList[i]]
          rw [ht, esc_snoc, if_pos hc, List.append_assoc]; rfl
        rw [spec_Escape.l0, if_pos (by omega), if_pos (by omega), hb, sign_f, Option.bind_some, hc, if_pos rfl, if_pos (by omega), Option.bind_some, hone, if_pos (by rw [ByteArray.size_append]; omega), ← e, Small.w64s i (by omega)]
      · have e : (⟨(esc (s.data.toList.take (i + 1))).toArray⟩ : ByteArray) = (⟨(esc (s.data.toList.take i)).toArray⟩ : ByteArray) ++ (⟨#[s.data.toList[i]]⟩ : ByteArray) := by
          apply ext
          rw [data_append]
          show esc _ = esc _ ++ [s.data.toList[i]]
          rw [ht, esc_snoc, if_neg hc]
        rw [spec_Escape.l0, if_pos (by omega), if_pos (by omega), hb, sign_f, Option.bind_some, if_neg hc, Option.bind_some, hone, if_pos (by omega), ← e, Small.w64s i (by omega)]
  exact step s.data.toList.length 0 (by omega)

/-! ### texts that are UTF-8 -/
def zs : Nat → List UInt8 → List Int
  | 0, _ => []
  | n + 1, l => if l = [] then [] else ((decodeL l).1 : Int) :: zs n (l.drop (decodeL l).2)
theorem zs_len : ∀ (n : Nat) (l : List UInt8), (zs n l).length ≤ n
  | 0, _ => Nat.le_refl _
  | n + 1, l => by
    rw [zs]
    split
    · exact Nat.zero_le _
    · rw [List.length_cons]; have := zs_len n (l.drop (decodeL l).2); omega
theorem runes_zs (s : ByteArray) : ∀ (n i : Nat) (acc : Array Value), i ≤ s.size → Conv.runesFrom s n i acc = acc ++ ((zs n (s.data.toList.drop i)).map (Value.int .i32)).toArray
  | 0, i, acc, _ => by simp [Conv.runesFrom, zs]
  | n + 1, i, acc, hi => by
    rw [Conv.runesFrom, zs]
    by_cases h : i < s.size
    · have hne : s.data.toList.drop i ≠ [] := by
        intro e
        have := congrArg List.length e
        rw [List.length_drop, ← size_len] at this
        simp at this
        omega
      have hd := decode_drop s i hi
      have hw := decodeL_le (s.data.toList.drop i) hne
      rw [List.length_drop, ← size_len] at hw
      rw [if_pos h, if_neg hne]
      show Conv.runesFrom s n (i + (Utf8.decode s i).2) (acc.push (.int .i32 (Int.ofNat (Utf8.decode s i).1))) = _
      rw [hd, runes_zs s n _ _ (by omega), List.drop_drop]
      apply Array.toList_inj.1
      simp
    · have he : s.data.toList.drop i = [] := List.drop_eq_nil_of_le (by rw [← size_len]; omega)
      rw [if_neg h, if_pos he]; simp
set_option maxRecDepth 1000000 in
theorem encode_eq (r : Int) : (Utf8.encode r).data.toList = encodeRune r := by
  have hb : ∀ n : Nat, ((n : Int)).toNat.toUInt8 = UInt8.ofNat n := fun n => by simp
  unfold encodeRune
  by_cases hv : Utf8.valid r = true
  · obtain ⟨n, rfl⟩ : ∃ n : Nat, r = n := by
      unfold Utf8.valid at hv
      simp only [Bool.or_eq_true, Bool.and_eq_true, decide_eq_true_eq] at hv
      exact ⟨r.toNat, by omega⟩
    unfold Utf8.encode
    rw [if_pos hv]
    unfold Utf8.valid at hv
    simp only [Bool.or_eq_true, Bool.and_eq_true, decide_eq_true_eq] at hv
    simp only [Int.toNat_natCast]
    by_cases h1 : n < 128
    · rw [if_pos h1, encodeRuneZ_one (by omega) (by omega)]
      simp
    · rw [if_neg h1]
      by_cases h2 : n < 2048
      · rw [if_pos h2, encodeRuneZ_two (by omega) (by omega)]
        simp only [List.map_cons, List.map_nil]
        rw [show (192 + (n : Int) / 64) = ((192 + n / 64 : Nat) : Int) by omega, show (128 + (n : Int) % 64) = ((128 + n % 64 : Nat) : Int) by omega, hb, hb]
      · rw [if_neg h2]
        by_cases h3 : n < 65536
        · rw [if_pos h3, encodeRuneZ_three (by omega)]
          simp only [List.map_cons, List.map_nil]
          rw [show (224 + (n : Int) / 4096) = ((224 + n / 4096 : Nat) : Int) by omega, show (128 + (n : Int) / 64 % 64) = ((128 + n / 64 % 64 : Nat) : Int) by omega, show (128 + (n : Int) % 64) = ((128 + n % 64 : Nat) : Int) by omega, hb, hb, hb]
        · rw [if_neg h3, encodeRuneZ_four (by omega) (by omega)]
          simp only [List.map_cons, List.map_nil]
          rw [show (240 + (n : Int) / 262144) = ((240 + n / 262144 : Nat) : Int) by omega, show (128 + (n : Int) / 4096 % 64) = ((128 + n / 4096 % 64 : Nat) : Int) by omega, show (128 + (n : Int) / 64 % 64) = ((128 + n / 64 % 64 : Nat) : Int) by omega, show (128 + (n : Int) % 64) = ((128 + n % 64 : Nat) : Int) by omega, hb, hb, hb, hb]
  · have hbad : r < 0 ∨ (55296 ≤ r ∧ r ≤ 57343) ∨ 1114111 < r := by
      unfold Utf8.valid at hv
      simp only [Bool.or_eq_true, Bool.and_eq_true, decide_eq_true_eq] at hv
      omega
    rw [encodeRuneZ_bad hbad]
    unfold Utf8.encode
    rw [if_neg hv]
    rfl
theorem bytes_fold : ∀ (ns : List Int) (r : ByteArray), (ns.foldl (fun r n => r ++ Utf8.encode n) r).data.toList = r.data.toList ++ (ns.map encodeRune).flatten
  | [], r => by simp
  | n :: ns, r => by
    rw [List.foldl_cons, bytes_fold ns, data_append, encode_eq, List.map_cons, List.flatten_cons, List.append_assoc]
theorem zs_cat : ∀ (n : Nat) (l : List UInt8), ((zs n l).map encodeRune).flatten = cat n l
  | 0, _ => rfl
  | n + 1, l => by
    rw [zs, cat]
    by_cases h : l = []
    · rw [if_pos h, if_pos h]; rfl
    · rw [if_neg h, if_neg h, List.map_cons, List.flatten_cons, zs_cat n]
set_option maxRecDepth 100000 in
set_option maxHeartbeats 4000000 in
theorem plain_any (s : ByteArray) (hs : s.size ≤ 2147483647) : ∃ b : Bool, (b = true → Val s.data.toList) ∧ ∀ w, Calls Tryd.prog 4 #[.string s] w fun e w' => e = .returned (.bool b) ∧ Below w.heap.size w w' := by
  have hz := size_len s
  refine ⟨((runesBytes (zs s.size s.data.toList)).toList == s.toList), fun hb => ?_, fun w => ?_⟩
  · have h1 := beq_iff_eq.1 hb
    rw [toL, toL] at h1
    have h2 : (runesBytes (zs s.size s.data.toList)).data.toList = cat s.size s.data.toList := by
      unfold runesBytes
      rw [bytes_fold, zs_cat]
      rfl
    rw [h2] at h1
    exact (cat_val s.size s.data.toList (by omega)).2 (by rw [h1])
  · have hr := runes_zs s s.size 0 #[] (Nat.zero_le _)
    rw [List.drop_zero] at hr
    have hr' : Conv.runesFrom s s.size 0 #[] = ((zs s.size s.data.toList).map (Value.int .i32)).toArray := by rw [hr]; simp
    have hzl := zs_len s.size s.data.toList
    have hcv1 := run_runes_of_string (P := Tryd.prog) w 9 26 21 s Tryd.underlying9 Tryd.underlying26 Tryd.underlying21 (by rw [hr']; simp; omega)
    rw [hr'] at hcv1
    clear hr hr'
    generalize zs s.size s.data.toList = ns at hcv1 hzl ⊢
    simp only [List.size_toArray, List.length_map] at hcv1
    generalize grownCap w ns.length 0 21 = cap at hcv1
    generalize hW1 : w.drew.alloc (.cells ((ns.map (Value.int .i32)).toArray ++ Array.replicate (cap - ns.length) (.int .i32 0)) 21) = W1 at hcv1
    have hcv2 := run_convert_runes (P := Tryd.prog) W1 26 9 21 ⟨w.heap.size, 0, none⟩ ns.length cap ns (Nat.le_refl _) Tryd.underlying26 Tryd.underlying21 Tryd.underlying9 (fun j hj => by
      have hblk := blk_new w.drew (.cells ((ns.map (Value.int .i32)).toArray ++ Array.replicate (cap - ns.length) (.int .i32 0)) 21)
      rw [hW1] at hblk
      have := blk_cell hblk j
      rw [Addr.add_lit, Nat.zero_add]
      refine this.trans ?_
      rw [Array.getElem?_append_left (by simpa using hj)]
      simp [List.getElem?_eq_getElem hj, List.getD, hj])
    rw [List.take_length] at hcv2
    have HB : Aside0 (Below w.heap.size w W1) := ⟨by rw [← hW1]; exact below_alloc (below_drew1 (Below.refl _ _)) _⟩
    clear hW1 hz hs hzl
    generalize runesBytes ns = rb at hcv2 ⊢
    go_enter Tryd.func4, Tryd.ntmps4
    go_wp2
    go_ret
    exact ⟨rfl, HB.out⟩
set_option maxRecDepth 100000 in
theorem fieldUnescape_any (t : ByteArray) (l : List UInt8) (ht : t.data.toList = esc l) (hv : Val l) (hs : t.size ≤ 8589934592) (w : World) :
    Calls Tryd.prog 6 #[.string t] w fun e w' => e = .returned (.tuple #[.string ⟨l.toArray⟩, .bool false]) ∧ Below w.heap.size w w' := by
  have HU := Aside0.mk (unescape_any t l ht hv hs w)
  clear ht hv hs
  have mixed : Tryd.prog.follows .mixedOrders = true := by kernel_rfl
  go_enter Tryd.func6, Tryd.ntmps6
  go_wp2_with (first | (go_at_call 9; refine (HU.out).mono ?_; rintro e w1 ⟨rfl, hb⟩; have HB := Aside0.mk hb; clear hb HU))
  go_region
  all_goals go_wp2
  all_goals go_ret2
  all_goals exact ⟨rfl, by repeat (first | (with_reducible exact HB.out) | apply pw_below_drewN | apply below_drew1)⟩
theorem kEsc {s r : ByteArray} (h : Ev (fun k => impl_FieldEscape.f k s) r) (w : World) : Calls Tryd.prog 5 #[.string s] w fun e w' => e = .returned (.string r) ∧ Below w.heap.size w w' := by
  obtain ⟨K, hK⟩ := h
  exact impl_FieldEscape.calls K s r w (hK K (Nat.le_refl _))
theorem kSpec {s r : ByteArray} (h : Ev (fun k => spec_Escape.f k s) r) (w : World) : Calls Tryd.prog 7 #[.string s] w fun e w' => e = .returned (.string r) ∧ Below w.heap.size w w' := by
  obtain ⟨K, hK⟩ := h
  exact spec_Escape.calls K s r w (hK K (Nat.le_refl _))
set_option maxRecDepth 100000 in
set_option maxHeartbeats 4000000 in
theorem law_walk (s : ByteArray) (w : World) : Calls Tryd.prog 3 #[.string s] w fun e w' => e = .returned (.bool true) ∧ Below w.heap.size w w' := by
  have mixed : Tryd.prog.follows .mixedOrders = true := by kernel_rfl
  by_cases hs : s.size ≤ 2147483647
  rotate_left
  · have t1 : (2147483647 < (s.size : Int)) = True := eq_true (by omega)
    have t2 : (2147483647 < s.size) = True := eq_true (by omega)
    clear hs
    go_enter Tryd.func3, Tryd.ntmps3
    go_wp2
    go_ret
    exact ⟨rfl, Below.refl _ _⟩
  have t1 : (2147483647 < (s.size : Int)) = False := eq_false (by omega)
  have t2 : (2147483647 < s.size) = False := eq_false (by omega)
  obtain ⟨b, hb, hpl⟩ := plain_any s hs
  have HP := Aside0.mk hpl
  cases b
  · clear hpl hb hs
    go_enter Tryd.func3, Tryd.ntmps3
    go_wp2_with (first | (go_at_call 4; refine (HP.out _).mono ?_; rintro e w1 ⟨rfl, hb⟩; have HB := Aside0.mk hb; clear hb))
    go_ret
    exact ⟨rfl, HB.out⟩
  · have hv := hb rfl
    have hl := esc_len s.data.toList
    have hz := size_len s
    have H1 := Aside0.mk (fun w => kEsc (impl_f s hs) w)
    have H2 := Aside0.mk (fun w => kSpec (spec_f s hs) w)
    have H3 := Aside0.mk (fun w => fieldUnescape_any ⟨(esc s.data.toList).toArray⟩ s.data.toList rfl hv (by rw [size_len, data_mk]; omega) w)
    have H4 := Aside0.mk (fun w => kEsc (impl_f (⟨#[44]⟩ : ByteArray) (by decide)) w)
    have e1 : (⟨s.data.toList.toArray⟩ : ByteArray) = s := by apply ext; rfl
    have e2 : (⟨(esc (⟨#[44]⟩ : ByteArray).data.toList).toArray⟩ : ByteArray) = ⟨#[92, 44]⟩ := rfl
    rw [e1] at H3
    rw [e2] at H4
    generalize (⟨(esc s.data.toList).toArray⟩ : ByteArray) = t at H1 H2 H3
    have r1 : (t.toList == t.toList) = true := beq_self_eq_true _
    have r2 : (s.toList == s.toList) = true := beq_self_eq_true _
    clear hpl hb hs hv hl hz e1 e2
    go_enter Tryd.func3, Tryd.ntmps3
    go_wp2_with (first
      | (go_at_call 4; refine (HP.out _).mono ?_; rintro e w1 ⟨rfl, hb⟩; have B1 := Aside0.mk hb; clear hb HP)
      | (go_at_call 5; with_reducible refine (H1.out _).mono ?_; rintro e w2 ⟨rfl, hb⟩; have B2 := Aside0.mk (below_step B1.out hb); clear hb H1)
      | (go_at_call 6; refine (H3.out _).mono ?_; rintro e w3 ⟨rfl, hb⟩; have B3 := Aside0.mk (below_step B2.out hb); clear hb H3)
      | (go_at_call 7; refine (H2.out _).mono ?_; rintro e w4 ⟨rfl, hb⟩; have B4 := Aside0.mk (below_step B3.out hb); clear hb H2)
      | (go_at_call 5; refine (H4.out _).mono ?_; rintro e w5 ⟨rfl, hb⟩; have B5 := Aside0.mk (below_step B4.out hb); clear hb H4))
    go_ret
    exact ⟨by first | rfl | simp, B5.out⟩
end Go.Proofs.YtlbibogffeddhaaDoor.Esc
