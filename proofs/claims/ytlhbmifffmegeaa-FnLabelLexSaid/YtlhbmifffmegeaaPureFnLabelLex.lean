/- The pieces of a selector's text: two signs that are one, one sign, or a word as long as it goes on; then the end: of all texts (of those that the statement's bound lets by). -/
import Derived.Test.YtlhbmifffmegeaaPFnLabelLexx5
import Derived.Test.YtlhbmifffmegeaaTxt
import Derived.Test.YtlhbmifffmegeaaEvs
set_option linter.unusedVariables false
set_option linter.unusedSimpArgs false
namespace Go.Proofs.Ytlhbmifffmegeaa.Pure
open Go Go.RowKit Go.Proofs.Ytlhbmifffmegeaa.PFnLabelLex Go.Proofs.YtlhbmifffmegeaaW.PrintWords Go.Proofs.YtlhbmifffmegeaaW.PrintLast Go.Proofs.Ytlhbmifffmegeaa.Txt

/-- The byte at a place, as a number. -/
def by_ (s : ByteArray) (i : Nat) : Nat := (s.get! i).toNat

theorem by_list (s : ByteArray) (i : Nat) (h : i < s.data.toList.length) : by_ s i = (s.data.toList[i]).toNat := by
  unfold by_
  congr 1
  show s.get! i = _
  have h2 : i < s.data.size := by rw [Array.length_toList] at h; exact h
  simp only [ByteArray.get!]
  exact getElem!_pos s.data i h2

theorem by_at (s : ByteArray) (i : Nat) (h : i < s.size) : bt s (i : Int) = (by_ s i : Int) := by
  have hl : i < s.data.toList.length := by rw [← size_len]; exact h
  rw [bt_nat s i hl, by_list s i hl]

theorem fp_rd (ts : List ByteArray) (c : ByteArray) : rdOf ByteArray.empty (ts ++ [c]) (ts.length : Int) = c := by simp [rdOf]
theorem fp_put (ts : List ByteArray) (c e : ByteArray) : (ts ++ [c]).set ((ts.length : Int)).toNat e = ts ++ [e] := by simp
theorem ex_join (s : ByteArray) (a b c : Nat) (h1 : a ≤ b) (h2 : b ≤ c) : s.extract a b ++ s.extract b c = s.extract a c := by
  apply ext
  rw [data_append, data_extract, data_extract, data_extract]
  have e : c - a = (b - a) + (c - b) := by omega
  rw [e, List.take_add, List.drop_drop, show a + (b - a) = b by omega]
theorem ex_none (s : ByteArray) (a : Nat) : (⟨#[]⟩ : ByteArray) = s.extract a a := by
  apply ext
  rw [data_extract]; simp
theorem ex_all (s : ByteArray) : s.extract 0 s.size = s := by
  apply ext
  rw [data_extract, List.drop_zero, List.take_of_length_le (by rw [size_len]; omega)]
theorem by_ex (s : ByteArray) (a b j : Nat) (h : j < (s.extract a b).size) : by_ (s.extract a b) j = by_ s (a + j) := by
  rw [ByteArray.size_extract] at h
  have h1 : j < (s.extract a b).data.toList.length := by rw [← size_len, ByteArray.size_extract]; exact h
  have h2 : a + j < s.data.toList.length := by rw [← size_len]; omega
  rw [by_list _ j h1, by_list s _ h2]
  congr 1
  simp only [data_extract]
  simp
theorem ex_ex (s : ByteArray) (a b c d : Nat) (h1 : c ≤ d) (h2 : a + d ≤ b) : (s.extract a b).extract c d = s.extract (a + c) (a + d) := by
  apply ext
  rw [data_extract, data_extract, data_extract]
  rw [List.drop_take, List.drop_drop, List.take_take, show min (d - c) (b - a - c) = a + d - (a + c) by omega]
/-- The first place of a byte from a place on, or none. -/
theorem plc_rest (s : ByteArray) (c : UInt8) (st : Nat) (h : st ≤ s.size) :
    (plc c (s.extract st s.size).data.toList = -1 ∧ ∀ j, st ≤ j → j < s.size → by_ s j ≠ c.toNat) ∨
    ∃ q, st ≤ q ∧ q < s.size ∧ by_ s q = c.toNat ∧ (∀ j, st ≤ j → j < q → by_ s j ≠ c.toNat) ∧ plc c (s.extract st s.size).data.toList = ((q - st : Nat) : Int) := by
  have e : (s.extract st s.size).data.toList = s.data.toList.drop st := by
    rw [data_extract, List.take_of_length_le (by rw [List.length_drop, size_len]; omega)]
  have hl : s.size = s.data.toList.length := size_len s
  rw [e]
  unfold plc
  by_cases hp : plcN c (s.data.toList.drop st) < (s.data.toList.drop st).length
  · right
    rw [if_pos hp]
    have hp2 : st + plcN c (s.data.toList.drop st) < s.data.toList.length := by rw [List.length_drop] at hp; omega
    refine ⟨st + plcN c (s.data.toList.drop st), by omega, by omega, ?_, fun j h1 h2 z => ?_, by congr 1; omega⟩
    · rw [by_list s _ hp2]
      have := List.findIdx_getElem (w := hp) (p := (· == c)) (xs := s.data.toList.drop st)
      simp only [beq_iff_eq] at this
      exact congrArg UInt8.toNat ((List.getElem_drop (h := hp)).symm.trans this)
    · have h3 : j - st < plcN c (s.data.toList.drop st) := by omega
      have := List.not_of_lt_findIdx h3
      rw [List.getElem_drop] at this
      have h4 : j < s.data.toList.length := by omega
      rw [by_list s j h4] at z
      simp only [show st + (j - st) = j by omega] at this
      rw [UInt8.toNat_inj.1 z] at this
      simp at this
  · left
    rw [if_neg hp]
    refine ⟨rfl, fun j h1 h2 z => ?_⟩
    have h4 : j < s.data.toList.length := by omega
    rw [by_list s j h4] at z
    apply hp
    unfold plcN
    refine List.findIdx_lt_length_of_exists ⟨s.data.toList[j], ?_, by simp [UInt8.toNat_inj.1 z]⟩
    rw [show s.data.toList[j] = (s.data.toList.drop st)[j - st]'(by rw [List.length_drop]; omega) by rw [List.getElem_drop]; simp only [show st + (j - st) = j by omega]]
    exact List.getElem_mem _
theorem by_lt (s : ByteArray) (i : Nat) : by_ s i < 256 := UInt8.toNat_lt _

/-- A text's bytes as numbers. -/
def numsOf (t : ByteArray) : List Int := t.data.toList.map fun b => (b.toNat : Int)
theorem str_nums (t : ByteArray) : strOfNums (numsOf t) = t := by
  apply ext
  unfold strOfNums numsOf
  rw [data_mk, List.map_map]
  conv => rhs; rw [← List.map_id t.data.toList]
  apply List.map_congr_left
  intro b _
  simp
theorem nums_len (t : ByteArray) : (numsOf t).length = t.size := by unfold numsOf; rw [List.length_map, size_len]
theorem nums_nil (s : ByteArray) (a : Nat) : numsOf (s.extract a a) = [] := by
  rw [← ex_none]; rfl
theorem ex_snoc (s : ByteArray) (a p : Nat) (h : a ≤ p) (hp : p < s.data.toList.length) : (s.extract a (p + 1)).data.toList = (s.extract a p).data.toList ++ [s.data.toList[p]] := by
  rw [← ex_join s a p (p + 1) h (by omega), data_append]
  congr 1
  rw [data_extract, List.drop_eq_getElem_cons hp, show p + 1 - p = 1 by omega]; simp
theorem nums_snoc (s : ByteArray) (a p : Nat) (h : a ≤ p) (hp : p < s.size) : numsOf (s.extract a p) ++ [(by_ s p : Int)] = numsOf (s.extract a (p + 1)) := by
  have hl : p < s.data.toList.length := by rw [← size_len]; exact hp
  unfold numsOf
  rw [ex_snoc s a p h hl, List.map_append, by_list s p hl]; rfl
theorem nums_one (s : ByteArray) (q : Nat) (hq : q < s.size) : ([] : List Int) ++ [(by_ s q : Int)] = numsOf (s.extract q (q + 1)) := by
  have := nums_snoc s q q (by omega) hq
  rw [nums_nil] at this; exact this
theorem str_one (n : Nat) : (strOfNums [(n : Int)]).data.toList = [UInt8.ofNat n] := by
  unfold strOfNums; rw [data_mk]; simp
theorem by_u8 (s : ByteArray) (i : Nat) (h : i < s.data.toList.length) : s.data.toList[i] = UInt8.ofNat (by_ s i) := by
  rw [by_list s i h]; simp
theorem key_l0 (l : List ByteArray) (a : ByteArray) (hl : l.length ≤ 4294967296) (n : Nat) : ∀ i : Nat, i + n = l.length → Ev (fun k => spec_keyIn_string.l0 k l a (i : Int)) ((l.drop i).any fun t => t.data.toList == a.data.toList) := by
  induction n with
  | zero =>
    intro i hi
    rw [List.drop_eq_nil_of_le (by omega)]
    refine Evs.at1 fun k => ?_
    simp only [spec_keyIn_string.l0]
    rw [if_neg (by omega)]; rfl
  | succ n ih =>
    intro i hi
    have h : i < l.length := by omega
    have hr : rdOf ByteArray.empty l (i : Int) = l[i] := by simp [rdOf, List.getD_eq_getElem?_getD, List.getElem?_eq_getElem h]
    rw [List.drop_eq_getElem_cons h]
    by_cases e : l[i].data.toList = a.data.toList
    · refine Evs.at1 fun k => ?_
      simp only [spec_keyIn_string.l0]
      rw [if_pos (by omega), if_pos (by omega), hr, toL, toL, if_pos e, List.any_cons, beq_iff_eq.2 e]; rfl
    · rw [List.any_cons, beq_eq_false_iff_ne.2 e, Bool.false_or]
      refine Ev.step (fun k => ?_) (ih (i + 1) (by omega))
      simp only [spec_keyIn_string.l0]
      rw [if_pos (by omega), if_pos (by omega), hr, toL, toL, if_neg e, Small.w64s i (by omega)]

theorem key_f (l : List ByteArray) (a : ByteArray) (hl : l.length ≤ 4294967296) : Ev (fun k => spec_keyIn_string.f k l a) (l.any fun t => t.data.toList == a.data.toList) := by
  have := key_l0 l a hl l.length 0 (by omega)
  exact this

def blk (n : Nat) : Bool := n == 32 || n == 9 || n == 13 || n == 10
def sig (n : Nat) : Bool := n == 61 || n == 33 || n == 40 || n == 41 || n == 44 || n == 62 || n == 60
def tokL (l : List UInt8) : Int × Bool := if l = ([41] : List UInt8) then (2, true) else (if l = ([44] : List UInt8) then (3, true) else (if l = ([33] : List UInt8) then (4, true) else (if l = ([61, 61] : List UInt8) then (5, true) else (if l = ([61] : List UInt8) then (6, true) else (if l = ([62] : List UInt8) then (7, true) else (if l = ([105, 110] : List UInt8) then (9, true) else (if l = ([60] : List UInt8) then (10, true) else (if l = ([33, 61] : List UInt8) then (11, true) else (if l = ([110, 111, 116, 105, 110] : List UInt8) then (12, true) else (if l = ([40] : List UInt8) then (13, true) else (0, false)))))))))))
def pcL (l : List UInt8) : Int := if l = ([41] : List UInt8) then 2 else (if l = ([44] : List UInt8) then 3 else (if l = ([33] : List UInt8) then 4 else (if l = ([61, 61] : List UInt8) then 5 else (if l = ([61] : List UInt8) then 6 else (if l = ([62] : List UInt8) then 7 else (if l = ([60] : List UInt8) then 10 else (if l = ([33, 61] : List UInt8) then 11 else (if l = ([40] : List UInt8) then 13 else 0))))))))

theorem ite_some {α : Type} {c : Prop} [Decidable c] (a b : α) : (if c then some a else some b) = some (if c then a else b) := by split <;> rfl
theorem tok_f (a : ByteArray) : labels_string2token.f a = some (tokL a.data.toList) := by
  unfold labels_string2token.f tokL
  simp only [toL, ite_some]
theorem pc_f (a : ByteArray) : spec_pieceOf.f a = some (pcL a.data.toList) := by
  unfold spec_pieceOf.f pcL
  simp only [toL, ite_some]
theorem white_f (n : Nat) : labels_isWhitespace.f (n : Int) = some (blk n) := by
  unfold labels_isWhitespace.f blk
  by_cases h1 : n = 32
  · subst h1; rfl
  · rw [if_neg (by omega)]
    by_cases h2 : n = 9
    · subst h2; rfl
    · rw [if_neg (by omega)]
      by_cases h3 : n = 13
      · subst h3; rfl
      · rw [if_neg (by omega), beq_eq_false_iff_ne.2 h1, beq_eq_false_iff_ne.2 h2, beq_eq_false_iff_ne.2 h3]
        congr 1
        rw [Bool.eq_iff_iff]
        simp only [Bool.or_eq_true, beq_iff_eq, Bool.false_eq_true, false_or]
        omega
theorem blank_f (n : Nat) : spec_blank.f (n : Int) = some (blk n) := white_f n
theorem special_f (n : Nat) : labels_isSpecialSymbol.f (n : Int) = some (sig n) := by
  unfold labels_isSpecialSymbol.f sig
  simp only [ite_some]
  by_cases h1 : n = 61
  · subst h1; rfl
  · by_cases h2 : n = 33
    · subst h2; rfl
    · by_cases h3 : n = 40
      · subst h3; rfl
      · by_cases h4 : n = 41
        · subst h4; rfl
        · by_cases h5 : n = 44
          · subst h5; rfl
          · by_cases h6 : n = 62
            · subst h6; rfl
            · by_cases h7 : n = 60
              · subst h7; rfl
              · rw [if_neg (by omega), if_neg (by omega), if_neg (by omega), if_neg (by omega), if_neg (by omega), if_neg (by omega), if_neg (by omega)]
                simp [h1, h2, h3, h4, h5, h6, h7]
theorem sign_tab : ∀ n : Fin 256, (([(⟨#[61]⟩ : ByteArray), (⟨#[33]⟩ : ByteArray), (⟨#[40]⟩ : ByteArray), (⟨#[41]⟩ : ByteArray), (⟨#[44]⟩ : ByteArray), (⟨#[60]⟩ : ByteArray), (⟨#[62]⟩ : ByteArray)] : List ByteArray).any fun t => t.data.toList == [UInt8.ofNat n.val]) = sig n.val := by decide +kernel
theorem sign_f (n : Nat) (h : n < 256) : Ev (fun k => spec_sign.f k (n : Int)) (sig n) := by
  unfold spec_sign.f
  have := key_f ([(⟨#[61]⟩ : ByteArray), (⟨#[33]⟩ : ByteArray), (⟨#[40]⟩ : ByteArray), (⟨#[41]⟩ : ByteArray), (⟨#[44]⟩ : ByteArray), (⟨#[60]⟩ : ByteArray), (⟨#[62]⟩ : ByteArray)] : List ByteArray) (strOfNums [(n : Int)]) (by decide)
  rw [str_one, sign_tab ⟨n, h⟩] at this
  exact Ev.bind this (Ev.now _)
theorem one_tab : ∀ n : Fin 256, sig n.val = true → tokL [UInt8.ofNat n.val] = (pcL [UInt8.ofNat n.val], true) ∧ pcL [UInt8.ofNat n.val] ≠ 0 ∧ pcL [UInt8.ofNat n.val] ≠ 1 := by decide +kernel
def two (a b : UInt8) : Bool := (a == 61 || a == 33) && b == 61
theorem tok_two (a b : UInt8) (ha : a ≠ 105) : tokL [a, b] = if two a b then (pcL [a, b], true) else (0, false) := by
  unfold tokL pcL two
  by_cases h1 : b = 61 <;> by_cases h2 : a = 61 <;> by_cases h3 : a = 33 <;> simp [h1, h2, h3, ha]
theorem pc_two (a b : UInt8) : pcL [a, b] > 0 ↔ two a b = true := by
  unfold pcL two
  by_cases h1 : b = 61 <;> by_cases h2 : a = 61 <;> by_cases h3 : a = 33 <;> simp [h1, h2, h3]
theorem pc_two1 (a b : UInt8) (h : two a b = true) : pcL [a, b] ≠ 0 ∧ pcL [a, b] ≠ 1 := by
  unfold two at h
  unfold pcL
  by_cases h1 : b = 61 <;> by_cases h2 : a = 61 <;> by_cases h3 : a = 33 <;> simp_all
theorem tok_three (a b c : UInt8) : tokL [a, b, c] = (0, false) := by
  unfold tokL; simp
/-- A word's number. -/
def tw (l : List UInt8) : Int := if l = [105, 110] then 9 else if l = [110, 111, 116, 105, 110] then 12 else 8
theorem tok_word (c : UInt8) (l : List UInt8) (h : sig c.toNat = false) : (if (tokL (c :: l)).2 = true then (tokL (c :: l)).1 else 8) = tw (c :: l) := by
  have e : ∀ d : UInt8, sig d.toNat = true → c ≠ d := fun d hd z => by rw [z, hd] at h; cases h
  have e1 := e 41 (by decide)
  have e2 := e 44 (by decide)
  have e3 := e 33 (by decide)
  have e4 := e 61 (by decide)
  have e5 := e 62 (by decide)
  have e6 := e 60 (by decide)
  have e7 := e 40 (by decide)
  unfold tokL tw
  simp only [List.cons.injEq, e1, e2, e3, e4, e5, e6, e7, false_and, if_false]
  by_cases h1 : c = 105 ∧ l = [110]
  · simp [h1]
  · by_cases h2 : c = 110 ∧ l = [111, 116, 105, 110]
    · simp [h2]
    · simp only [if_neg h1, if_neg h2]; rfl

theorem sig_i (n : Nat) (hn : n < 256) (h : sig n = true) : UInt8.ofNat n ≠ 105 := by
  intro z
  have : n = 105 := by have := congrArg UInt8.toNat z; simp at this; omega
  subst this; exact absurd h (by decide)

section
variable (s : ByteArray) (hs : s.size ≤ 2147483647) (hz : ∀ j, j < s.size → by_ s j ≠ 0)
include hs

theorem rd_lt (p : Nat) (hp : p < s.size) : labels_Lexer_read.f s (p : Int) = some ((by_ s p : Int), s, ((p + 1 : Nat) : Int)) := by
  unfold labels_Lexer_read.f
  rw [if_pos (by omega), if_pos (by omega), by_at s p hp, Small.w64s p (by omega)]
omit hs in
theorem rd_ge (p : Nat) (hp : ¬ p < s.size) : labels_Lexer_read.f s (p : Int) = some (0, s, (p : Int)) := by
  unfold labels_Lexer_read.f
  rw [if_neg (by omega)]
theorem un_rd (p : Nat) (hp : p < s.size) : labels_Lexer_unread.f s ((p + 1 : Nat) : Int) = some (s, (p : Int)) := by
  unfold labels_Lexer_unread.f
  rw [Small.w64 _ (by omega) (by omega)]
  congr 2; omega

omit hs in
/-- The lexer's signs: what was found stands when the next byte doesn't make it longer. -/
theorem sc_end (B : List Int) (t : Int) (lit : ByteArray) (p : Nat) (hp : ¬ p < s.size) (ht : t ≠ 0) : Ev (fun k => labels_Lexer_scanSpecialSymbol.l0 k B s (p : Int) t lit) (t, lit, s, (p : Int)) :=
  Evs.at1 fun k => by
    simp only [labels_Lexer_scanSpecialSymbol.l0]
    rw [rd_ge s p hp]; simp only [Option.bind_some]; rw [if_pos trivial, if_neg ht]
theorem sc_no (B : List Int) (t : Int) (lit : ByteArray) (p : Nat) (hp : p < s.size) (h0 : by_ s p ≠ 0) (hb : sig (by_ s p) = false) (ht : t ≠ 0) : Ev (fun k => labels_Lexer_scanSpecialSymbol.l0 k B s (p : Int) t lit) (t, lit, s, (p : Int)) :=
  Evs.at1 fun k => by
    simp only [labels_Lexer_scanSpecialSymbol.l0]
    rw [rd_lt s hs p hp]; simp only [Option.bind_some]; rw [if_neg (by omega), special_f, hb]; simp only [Option.bind_some]
    rw [if_neg (by simp), un_rd s hs p hp]; simp only [Option.bind_some]; rw [if_neg ht]
theorem sc_out (B : List Int) (t : Int) (lit : ByteArray) (p : Nat) (hp : p < s.size) (h0 : by_ s p ≠ 0) (hb : sig (by_ s p) = true) (hB : B.length < 140737488355328) (ht : t ≠ 0) (hk : (tokL (strOfNums (B ++ [(by_ s p : Int)])).data.toList).2 = false) : Ev (fun k => labels_Lexer_scanSpecialSymbol.l0 k B s (p : Int) t lit) (t, lit, s, (p : Int)) :=
  Evs.at1 fun k => by
    simp only [labels_Lexer_scanSpecialSymbol.l0]
    rw [rd_lt s hs p hp]; simp only [Option.bind_some]; rw [if_neg (by omega), special_f, hb]; simp only [Option.bind_some]
    rw [if_pos trivial, if_pos hB, tok_f]; simp only [Option.bind_some]
    rw [hk, if_neg (by simp), if_neg ht, un_rd s hs p hp]; rfl
theorem sc_on (B : List Int) (t u : Int) (lit : ByteArray) (p : Nat) (r : Int × ByteArray × ByteArray × Int) (hp : p < s.size) (h0 : by_ s p ≠ 0) (hb : sig (by_ s p) = true) (hB : B.length < 140737488355328) (hk : tokL (strOfNums (B ++ [(by_ s p : Int)])).data.toList = (u, true)) (e : Ev (fun k => labels_Lexer_scanSpecialSymbol.l0 k (B ++ [(by_ s p : Int)]) s ((p + 1 : Nat) : Int) u (strOfNums (B ++ [(by_ s p : Int)]))) r) : Ev (fun k => labels_Lexer_scanSpecialSymbol.l0 k B s (p : Int) t lit) r :=
  Ev.step (fun k => by
    simp only [labels_Lexer_scanSpecialSymbol.l0]
    rw [rd_lt s hs p hp]; simp only [Option.bind_some]; rw [if_neg (by omega), special_f, hb]; simp only [Option.bind_some]
    rw [if_pos trivial, if_pos hB, tok_f]; simp only [Option.bind_some]
    rw [hk, if_pos rfl]) e

/-- The number of bytes of the sign at a place. -/
def wid (q : Nat) : Nat := if q + 1 < s.size ∧ two (UInt8.ofNat (by_ s q)) (UInt8.ofNat (by_ s (q + 1))) = true then 2 else 1

omit hs in
theorem ex1 (q : Nat) (hq : q < s.size) : (s.extract q (q + 1)).data.toList = [UInt8.ofNat (by_ s q)] := by
  have h : q < s.data.toList.length := by rw [← size_len]; exact hq
  rw [ex_snoc s q q (by omega) h, ← ex_none, by_u8 s q h]; rfl
omit hs in
theorem ex2 (q : Nat) (hq : q + 1 < s.size) : (s.extract q (q + 2)).data.toList = [UInt8.ofNat (by_ s q), UInt8.ofNat (by_ s (q + 1))] := by
  have h : q + 1 < s.data.toList.length := by rw [← size_len]; exact hq
  rw [ex_snoc s q (q + 1) (by omega) h, ex1 s q (by omega), by_u8 s (q + 1) h]; rfl
omit hs in
theorem ex3 (q : Nat) (hq : q + 2 < s.size) : (s.extract q (q + 3)).data.toList = [UInt8.ofNat (by_ s q), UInt8.ofNat (by_ s (q + 1)), UInt8.ofNat (by_ s (q + 2))] := by
  have h : q + 2 < s.data.toList.length := by rw [← size_len]; exact hq
  rw [ex_snoc s q (q + 2) (by omega) h, ex2 s q (by omega), by_u8 s (q + 2) h]; rfl

include hz in
theorem sc_f (q : Nat) (hq : q < s.size) (hb : sig (by_ s q) = true) : Ev (fun k => labels_Lexer_scanSpecialSymbol.f k s (q : Int)) (pcL (s.extract q (q + wid s q)).data.toList, s.extract q (q + wid s q), s, ((q + wid s q : Nat) : Int)) := by
  unfold labels_Lexer_scanSpecialSymbol.f
  have t1 := one_tab ⟨by_ s q, by_lt s q⟩ hb
  have n0 : ([] : List Int) ++ [(by_ s q : Int)] = numsOf (s.extract q (q + 1)) := nums_one s q hq
  have hk1 : tokL (strOfNums (([] : List Int) ++ [(by_ s q : Int)])).data.toList = (pcL (s.extract q (q + 1)).data.toList, true) := by
    rw [n0, str_nums, ex1 s q hq]; exact t1.1
  have hne1 : pcL (s.extract q (q + 1)).data.toList ≠ 0 := by rw [ex1 s q hq]; exact t1.2.1
  refine sc_on s hs [] 0 _ _ q _ hq (hz q hq) hb (by simp) hk1 ?_
  rw [n0, str_nums]
  unfold wid
  by_cases hq2 : q + 1 < s.size
  · have l1 : (numsOf (s.extract q (q + 1))).length < 140737488355328 := by rw [nums_len, ByteArray.size_extract]; omega
    by_cases hb2 : sig (by_ s (q + 1)) = true
    · have n1 := nums_snoc s q (q + 1) (by omega) hq2
      have ht2 := tok_two (UInt8.ofNat (by_ s q)) (UInt8.ofNat (by_ s (q + 1))) (sig_i _ (by_lt s q) hb)
      by_cases h2 : two (UInt8.ofNat (by_ s q)) (UInt8.ofNat (by_ s (q + 1))) = true
      · rw [if_pos ⟨hq2, h2⟩]
        rw [h2] at ht2
        have hp2 := pc_two1 _ _ h2
        have hk2 : tokL (strOfNums (numsOf (s.extract q (q + 1)) ++ [(by_ s (q + 1) : Int)])).data.toList = (pcL (s.extract q (q + 2)).data.toList, true) := by
          rw [n1, str_nums, ex2 s q hq2]; exact ht2
        refine sc_on s hs _ _ _ _ (q + 1) _ hq2 (hz _ hq2) hb2 l1 hk2 ?_
        rw [n1, str_nums]
        have hne2 : pcL (s.extract q (q + 2)).data.toList ≠ 0 := by rw [ex2 s q hq2]; exact hp2.1
        by_cases hq3 : q + 2 < s.size
        · have l2 : (numsOf (s.extract q (q + 2))).length < 140737488355328 := by rw [nums_len, ByteArray.size_extract]; omega
          cases hb3 : sig (by_ s (q + 2)) with
          | true =>
            refine sc_out s hs _ _ _ (q + 2) hq3 (hz _ hq3) hb3 l2 hne2 ?_
            rw [nums_snoc s q (q + 2) (by omega) hq3, str_nums, ex3 s q hq3, tok_three]
          | false => exact sc_no s hs _ _ _ (q + 2) hq3 (hz _ hq3) hb3 hne2
        · exact sc_end s _ _ _ (q + 2) hq3 hne2
      · rw [if_neg (fun z => h2 z.2)]
        rw [if_neg h2] at ht2
        refine sc_out s hs _ _ _ (q + 1) hq2 (hz _ hq2) hb2 l1 hne1 ?_
        rw [n1, str_nums, ex2 s q hq2, ht2]
    · rw [Bool.not_eq_true] at hb2
      have h2 : ¬ two (UInt8.ofNat (by_ s q)) (UInt8.ofNat (by_ s (q + 1))) = true := by
        intro z
        unfold two at z
        simp only [Bool.and_eq_true, beq_iff_eq] at z
        have : by_ s (q + 1) = 61 := by have := congrArg UInt8.toNat z.2; have h3 := by_lt s (q + 1); simp at this; omega
        rw [this] at hb2; exact absurd hb2 (by decide)
      rw [if_neg (fun z => h2 z.2)]
      exact sc_no s hs _ _ _ (q + 1) hq2 (hz _ hq2) hb2 hne1
  · rw [if_neg (fun z => hq2 z.1)]
    exact sc_end s _ _ _ (q + 1) hq2 hne1

omit hs in
/-- A word's end, of both. -/
theorem wd_end (t : List Int) (p : Nat) (x : ByteArray) (ht : strOfNums t = x) (hp : ¬ p < s.size) : Ev (fun k => labels_Lexer_scanIDOrKeyword.l0 k t s (p : Int)) (if (tokL x.data.toList).2 = true then (tokL x.data.toList).1 else 8, x, s, (p : Int)) :=
  Evs.at1 fun k => by
    simp only [labels_Lexer_scanIDOrKeyword.l0]
    rw [rd_ge s p hp]; simp only [Option.bind_some]; rw [if_pos trivial, ht, tok_f]; simp only [Option.bind_some]
    split <;> rfl
theorem wd_stop (t : List Int) (p : Nat) (x : ByteArray) (ht : strOfNums t = x) (hp : p < s.size) (h0 : by_ s p ≠ 0) (hb : (sig (by_ s p) || blk (by_ s p)) = true) : Ev (fun k => labels_Lexer_scanIDOrKeyword.l0 k t s (p : Int)) (if (tokL x.data.toList).2 = true then (tokL x.data.toList).1 else 8, x, s, (p : Int)) :=
  Evs.at1 fun k => by
    simp only [labels_Lexer_scanIDOrKeyword.l0]
    rw [rd_lt s hs p hp]; simp only [Option.bind_some]; rw [if_neg (by omega), special_f]; simp only [Option.bind_some]
    cases h1 : sig (by_ s p) with
    | true =>
      rw [if_pos rfl, un_rd s hs p hp]; simp only [Option.bind_some]; rw [ht, tok_f]; simp only [Option.bind_some]
      split <;> rfl
    | false =>
      rw [h1, Bool.false_or] at hb
      rw [if_neg (by simp), white_f, hb]; simp only [Option.bind_some]
      rw [if_pos trivial, un_rd s hs p hp]; simp only [Option.bind_some]; rw [ht, tok_f]; simp only [Option.bind_some]
      split <;> rfl
theorem wd_on (t : List Int) (p : Nat) (r : Int × ByteArray × ByteArray × Int) (hp : p < s.size) (h0 : by_ s p ≠ 0) (h1 : sig (by_ s p) = false) (h2 : blk (by_ s p) = false) (hl : t.length < 140737488355328) (e : Ev (fun k => labels_Lexer_scanIDOrKeyword.l0 k (t ++ [(by_ s p : Int)]) s ((p + 1 : Nat) : Int)) r) : Ev (fun k => labels_Lexer_scanIDOrKeyword.l0 k t s (p : Int)) r :=
  Ev.step (fun k => by
    simp only [labels_Lexer_scanIDOrKeyword.l0]
    rw [rd_lt s hs p hp]; simp only [Option.bind_some]; rw [if_neg (by omega), special_f, h1]; simp only [Option.bind_some]
    rw [if_neg (by simp), white_f, h2]; simp only [Option.bind_some]
    rw [if_neg (by simp), if_pos hl]) e

include hz in
theorem word (q : Nat) (n : Nat) : ∀ p, p + n = s.size → q < p → ∃ e, p ≤ e ∧ e ≤ s.size ∧
    Ev (fun k => labels_Lexer_scanIDOrKeyword.l0 k (numsOf (s.extract q p)) s (p : Int)) (if (tokL (s.extract q e).data.toList).2 = true then (tokL (s.extract q e).data.toList).1 else 8, s.extract q e, s, (e : Int)) ∧
    ∀ out r, Ev (fun k => spec_Pieces.j2 k s out (q : Int) ((e - q : Nat) : Int)) r → Ev (fun k => spec_Pieces.l1 k s out (q : Int) ((p - q : Nat) : Int)) r := by
  induction n with
  | zero =>
    intro p hp hq
    have hw : Aside0 (wrap64 ((q : Int) + ((p - q : Nat) : Int)) = (p : Int)) := ⟨by rw [Small.w64 _ (by omega) (by omega)]; omega⟩
    refine ⟨p, by omega, by omega, wd_end s _ p _ (str_nums _) (by omega), fun out r e => ?_⟩
    refine Ev.step (fun k => ?_) e
    simp only [spec_Pieces.l1]
    rw [hw.out, if_neg (by omega)]
  | succ n ih =>
    intro p hp hq
    have hw : Aside0 (wrap64 ((q : Int) + ((p - q : Nat) : Int)) = (p : Int)) := ⟨by rw [Small.w64 _ (by omega) (by omega)]; omega⟩
    have hw2 : Aside0 (wrap64 (((p - q : Nat) : Int) + 1) = ((p + 1 - q : Nat) : Int)) := ⟨by rw [Small.w64 _ (by omega) (by omega)]; omega⟩
    have hlt : p < s.size := by omega
    by_cases hb : (sig (by_ s p) || blk (by_ s p)) = true
    · refine ⟨p, by omega, by omega, wd_stop s hs _ p _ (str_nums _) hlt (hz p hlt) hb, fun out r e => ?_⟩
      cases h1 : blk (by_ s p) with
      | true =>
        refine Ev.step (fun k => ?_) e
        simp only [spec_Pieces.l1]
        rw [hw.out, if_pos (by omega), if_pos (by omega), by_at s p hlt, blank_f, h1]; simp only [Option.bind_some]
        rw [if_pos trivial]
      | false =>
        rw [h1, Bool.or_false] at hb
        refine Ev.step (fun k => ?_) (Ev.bind (sign_f (by_ s p) (by_lt s p)) (f := fun k t => if t = true then spec_Pieces.j2 k s out (q : Int) ((p - q : Nat) : Int) else spec_Pieces.l1 k s out (q : Int) ((p + 1 - q : Nat) : Int)) ?_)
        · simp only [spec_Pieces.l1]
          rw [hw.out, if_pos (by omega), if_pos (by omega), by_at s p hlt, blank_f, h1, hw2.out]; simp only [Option.bind_some]
          rw [if_neg (by simp)]
        · rw [hb]; exact Evs.yes rfl e
    · simp only [Bool.or_eq_true, not_or, Bool.not_eq_true] at hb
      obtain ⟨e, e1, e2, e3, e4⟩ := ih (p + 1) (by omega) (by omega)
      refine ⟨e, by omega, e2, ?_, fun out r h => ?_⟩
      · refine wd_on s hs _ p _ hlt (hz p hlt) hb.1 hb.2 (by rw [nums_len, ByteArray.size_extract]; omega) ?_
        rw [nums_snoc s q p (by omega) hlt]; exact e3
      · refine Ev.step (fun k => ?_) (Ev.bind (sign_f (by_ s p) (by_lt s p)) (f := fun k t => if t = true then spec_Pieces.j2 k s out (q : Int) ((p - q : Nat) : Int) else spec_Pieces.l1 k s out (q : Int) ((p + 1 - q : Nat) : Int)) ?_)
        · simp only [spec_Pieces.l1]
          rw [hw.out, if_pos (by omega), if_pos (by omega), by_at s p hlt, blank_f, hb.2, hw2.out]; simp only [Option.bind_some]
          rw [if_neg (by simp)]
        · rw [hb.1]; exact Evs.no (by simp) (e4 out r h)

/-- What stands at the head of the text from a place on. -/
def hdC (i : Nat) : Int := if i < s.size then (by_ s i : Int) else 0
def hdP (i : Nat) : Nat := if i < s.size then i + 1 else i
theorem rd_hd (i : Nat) : labels_Lexer_read.f s (i : Int) = some (hdC s i, s, (hdP s i : Int)) := by
  unfold hdC hdP
  by_cases h : i < s.size
  · rw [if_pos h, if_pos h]; exact rd_lt s hs i h
  · rw [if_neg h, if_neg h]; exact rd_ge s i h

theorem skip (n : Nat) : ∀ i, i + n = s.size → ∃ q, i ≤ q ∧ q ≤ s.size ∧ (q < s.size → blk (by_ s q) = false) ∧
    Ev (fun k => labels_Lexer_skipWhiteSpaces.l0 k (hdC s i) s (hdP s i : Int)) (hdC s q, s, (hdP s q : Int)) ∧
    ∀ out r, Ev (fun k => spec_Pieces.l0 k s out (q : Int)) r → Ev (fun k => spec_Pieces.l0 k s out (i : Int)) r := by
  induction n with
  | zero =>
    intro i hi
    refine ⟨i, by omega, by omega, fun h => by omega, Evs.at1 fun k => ?_, fun out r e => e⟩
    simp only [labels_Lexer_skipWhiteSpaces.l0]
    unfold hdC
    rw [if_neg (by omega), show labels_isWhitespace.f 0 = some false from white_f 0]; rfl
  | succ n ih =>
    intro i hi
    have hlt : i < s.size := by omega
    have hc : hdC s i = (by_ s i : Int) := if_pos hlt
    have hp : hdP s i = i + 1 := if_pos hlt
    cases hb : blk (by_ s i) with
    | false =>
      refine ⟨i, by omega, by omega, fun _ => hb, Evs.at1 fun k => ?_, fun out r e => e⟩
      simp only [labels_Lexer_skipWhiteSpaces.l0]
      rw [hc, white_f, hb]; rfl
    | true =>
      obtain ⟨q, q1, q2, q3, q4, q5⟩ := ih (i + 1) (by omega)
      refine ⟨q, by omega, q2, q3, Ev.step (fun k => ?_) q4, fun out r e => Ev.step (fun k => ?_) (q5 out r e)⟩
      · simp only [labels_Lexer_skipWhiteSpaces.l0]
        rw [hc, white_f, hb, hp, rd_hd s hs (i + 1)]; rfl
      · simp only [spec_Pieces.l0]
        rw [if_pos (by omega), if_pos (by omega), by_at s i hlt, blank_f, hb, Small.w64s i (by omega)]; rfl

include hz in
theorem next (i : Nat) (hi : i ≤ s.size) : ∃ (t : Int) (lit : ByteArray) (j : Nat), Ev (fun k => labels_Lexer_Lex.f k s (i : Int)) (t, lit, s, (j : Int)) ∧
    ((t = 1 ∧ lit = ⟨#[]⟩ ∧ ∀ out, Ev (fun k => spec_Pieces.l0 k s out (i : Int)) out) ∨
     (t ≠ 0 ∧ t ≠ 1 ∧ i < j ∧ j ≤ s.size ∧ ∀ out r, out.length < 5864062014805 → Ev (fun k => spec_Pieces.l0 k s (out ++ [(⟨t, lit⟩ : S25)]) (j : Int)) r → Ev (fun k => spec_Pieces.l0 k s out (i : Int)) r)) := by
  obtain ⟨q, q1, q2, q3, q4, q5⟩ := skip s hs (s.size - i) i (by omega)
  unfold labels_Lexer_Lex.f
  simp only [rd_hd s hs i, Option.bind_some]
  by_cases hq : q < s.size
  · have hc : hdC s q = (by_ s q : Int) := if_pos hq
    have hp : hdP s q = q + 1 := if_pos hq
    rw [hc, hp] at q4
    have h0 := hz q hq
    have hb := q3 hq
    cases hg : sig (by_ s q) with
    | true =>
      have t1 := one_tab ⟨by_ s q, by_lt s q⟩ hg
      have e1 := ex1 s q hq
      have hw : 1 ≤ wid s q ∧ wid s q ≤ 2 ∧ (wid s q = 2 → q + 1 < s.size) := by
        unfold wid; split
        · rename_i h; exact ⟨by omega, by omega, fun _ => h.1⟩
        · exact ⟨by omega, by omega, by omega⟩
      have hn : pcL (s.extract q (q + wid s q)).data.toList ≠ 0 ∧ pcL (s.extract q (q + wid s q)).data.toList ≠ 1 := by
        unfold wid; split
        · rename_i h; rw [ex2 s q h.1]; exact pc_two1 _ _ h.2
        · rw [e1]; exact t1.2
      refine ⟨pcL (s.extract q (q + wid s q)).data.toList, s.extract q (q + wid s q), q + wid s q, ?_, .inr ⟨hn.1, hn.2, by omega, by omega, fun out r ho e => q5 out r ?_⟩⟩
      · refine Ev.bind q4 (Evs.no (by omega) ?_)
        simp only [special_f, hg, Option.bind_some, un_rd s hs q hq]
        exact Evs.yes (by simp) (Ev.bind (sc_f s hs hz q hq hg) (Ev.now _))
      · have w1 : Aside0 (wrap64 ((q : Int) + 1) = ((q + 1 : Nat) : Int)) := ⟨Small.w64s q (by omega)⟩
        have w2 : Aside0 (wrap64 ((q : Int) + 2) = ((q + 2 : Nat) : Int)) := ⟨by rw [Small.w64 _ (by omega) (by omega)]; omega⟩
        refine Ev.step (fun k => ?_) (Ev.bind (sign_f (by_ s q) (by_lt s q)) (f := fun k t => if t = true then spec_Pieces.l0 k s (out ++ [(⟨pcL (s.extract q (q + wid s q)).data.toList, s.extract q (q + wid s q)⟩ : S25)]) ((q + wid s q : Nat) : Int) else spec_Pieces.l1 k s out (q : Int) 1) ?_)
        · simp only [spec_Pieces.l0]
          rw [if_pos (by omega), if_pos (by omega), by_at s q hq, blank_f, hb]; simp only [Option.bind_some]
          rw [if_neg (by simp)]
          congr 1
          funext t
          by_cases htt : t = true
          · rw [if_pos htt, if_pos htt, w1.out, w2.out]
            simp only [Int.toNat_natCast, pc_f, Option.bind_some]
            by_cases hq2 : q + 1 < s.size
            · rw [if_pos (by omega), if_pos (by omega), if_pos (by omega), ex2 s q hq2]
              by_cases h2 : two (UInt8.ofNat (by_ s q)) (UInt8.ofNat (by_ s (q + 1))) = true
              · have hw2 : wid s q = 2 := if_pos ⟨hq2, h2⟩
                rw [if_pos ((pc_two _ _).2 h2), if_pos ho, hw2, ex2 s q hq2]
              · have hw1 : wid s q = 1 := if_neg fun z => h2 z.2
                rw [if_neg (fun z => h2 ((pc_two _ _).1 z)), if_pos (by omega), if_pos (by omega), if_pos ho, hw1]
            · have hw1 : wid s q = 1 := if_neg fun z => hq2 z.1
              rw [if_neg (by omega), if_pos (by omega), if_pos (by omega), if_pos ho, hw1]
          · rw [if_neg htt, if_neg htt]
        · rw [hg]; exact Evs.yes rfl e
    | false =>
      obtain ⟨e, e1, e2, e3, e4⟩ := word s hs hz q (s.size - (q + 1)) (q + 1) (by omega) (by omega)
      have hcons : ∃ l, (s.extract q e).data.toList = UInt8.ofNat (by_ s q) :: l := by
        have h : q < s.data.toList.length := by rw [← size_len]; exact hq
        refine ⟨(s.extract (q + 1) e).data.toList, ?_⟩
        rw [← ex_join s q (q + 1) e (by omega) (by omega), data_append, ex1 s q hq]; rfl
      obtain ⟨l, hl⟩ := hcons
      have htw := tok_word (UInt8.ofNat (by_ s q)) l (by rw [UInt8.toNat_ofNat_of_lt' (by_lt s q)]; exact hg)
      rw [hl, htw] at e3
      have hn : tw (UInt8.ofNat (by_ s q) :: l) ≠ 0 ∧ tw (UInt8.ofNat (by_ s q) :: l) ≠ 1 := by
        unfold tw; split
        · decide
        · split <;> decide
      refine ⟨tw (UInt8.ofNat (by_ s q) :: l), s.extract q e, e, ?_, .inr ⟨hn.1, hn.2, by omega, e2, fun out r ho h => q5 out r ?_⟩⟩
      · refine Ev.bind q4 (Evs.no (by omega) ?_)
        simp only [special_f, hg, Option.bind_some, un_rd s hs q hq]
        refine Evs.no (by simp) (Ev.bind (a := (tw (UInt8.ofNat (by_ s q) :: l), s.extract q e, s, (e : Int))) ?_ (Ev.now _))
        unfold labels_Lexer_scanIDOrKeyword.f
        refine wd_on s hs _ q _ hq h0 hg hb (by simp) ?_
        have n0 : ([] : List Int) ++ [(by_ s q : Int)] = numsOf (s.extract q (q + 1)) := nums_one s q hq
        rw [n0]; exact e3
      · refine Ev.step (fun k => ?_) (Ev.bind (sign_f (by_ s q) (by_lt s q)) (f := fun k t => if t = true then (spec_Pieces.l0 (k + 1) s out (q : Int)) else spec_Pieces.l1 k s out (q : Int) 1) ?_)
        · by_cases hx : spec_sign.f k (by_ s q : Int) = some true
          · simp only [hx, Option.bind_some, if_true]
          · simp only [spec_Pieces.l0]
            rw [if_pos (by omega), if_pos (by omega), by_at s q hq, blank_f, hb]; simp only [Option.bind_some]
            rw [if_neg (by simp)]
            cases hy : spec_sign.f k (by_ s q : Int) with
            | none => simp only [Option.bind_none]
            | some b =>
              cases b with
              | true => exact absurd hy hx
              | false => simp only [Option.bind_some, Bool.false_eq_true, if_false]
        · rw [hg]
          refine Evs.no (by simp) ?_
          have := e4 out r ?_
          · rw [show q + 1 - q = 1 by omega] at this; exact this
          · have w3 : Aside0 (wrap64 ((q : Int) + ((e - q : Nat) : Int)) = (e : Int)) := ⟨by rw [Small.w64 _ (by omega) (by omega)]; omega⟩
            refine Ev.step (fun k => ?_) h
            simp only [spec_Pieces.j2, w3.out, Int.toNat_natCast, toL, hl]
            rw [if_pos (by omega), if_pos (by omega), if_pos (by omega)]
            unfold tw
            by_cases c1 : UInt8.ofNat (by_ s q) :: l = [105, 110]
            · have c2 : ¬ UInt8.ofNat (by_ s q) :: l = [110, 111, 116, 105, 110] := by rw [c1]; decide
              simp only [if_pos c1, if_neg c2, if_pos ho]
            · by_cases c2 : UInt8.ofNat (by_ s q) :: l = [110, 111, 116, 105, 110]
              · simp only [if_neg c1, if_pos c2, if_pos ho]
              · simp only [if_neg c1, if_neg c2, if_pos ho]
  · have hqe : q = s.size := by omega
    have hc : hdC s q = 0 := if_neg hq
    have hp : hdP s q = q := if_neg hq
    rw [hc, hp] at q4
    refine ⟨1, ⟨#[]⟩, q, ?_, .inl ⟨rfl, rfl, fun out => q5 out out ?_⟩⟩
    · exact Ev.bind q4 (Evs.yes rfl (Ev.now _))
    · refine Evs.at1 fun k => ?_
      simp only [spec_Pieces.l0]
      rw [if_neg (by omega)]

include hz in
theorem both (n : Nat) : ∀ (i : Nat) (out : List S25), i + n = s.size → out.length ≤ i → ∃ r, Ev (fun k => spec_Pieces.l0 k s out (i : Int)) r ∧ Ev (fun k => impl_LabelLex.l0 k out s (i : Int)) (r ++ [(⟨1, ⟨#[]⟩⟩ : S25)]) ∧ r.length ≤ s.size := by
  induction n using Nat.strongRecOn with
  | _ n ih =>
    intro i out hi ho
    obtain ⟨t, lit, j, e1, e2⟩ := next s hs hz i (by omega)
    rcases e2 with ⟨rfl, rfl, e3⟩ | ⟨h0, h1, h2, h3, e3⟩
    · refine ⟨out, e3 out, ?_, by omega⟩
      refine Ev.step (fun k => by rw [impl_LabelLex.l0]) (Ev.bind e1 ?_)
      refine Evs.yes (by omega) ?_
      simp only [Option.bind_some]
      exact Evs.yes trivial (Ev.now _)
    · obtain ⟨r, r1, r2, r3⟩ := ih (s.size - j) (by omega) j (out ++ [(⟨t, lit⟩ : S25)]) (by omega) (by simp; omega)
      refine ⟨r, e3 out r (by omega) r1, ?_, r3⟩
      refine Ev.step (fun k => by rw [impl_LabelLex.l0]) (Ev.bind e1 ?_)
      refine Evs.yes (by omega) ?_
      simp only [Option.bind_some]
      exact Evs.no h1 (Evs.no h0 r2)
end

theorem rd_app (l m : List S25) (i : Nat) (h : i < l.length) : rd_T25 (l ++ m) (i : Int) = rd_T25 l (i : Int) := by
  unfold rd_T25
  rw [Int.toNat_natCast, List.getD_eq_getElem?_getD, List.getD_eq_getElem?_getD, List.getElem?_append_left h]
theorem cmp (l m : List S25) (hl : l.length ≤ 4294967296) (n : Nat) : ∀ i : Nat, i + n = l.length → Ev (fun k => laws_FnLabelLex.l1 k (l ++ m) l (i : Int)) true := by
  induction n with
  | zero => intro i hi; exact Evs.at1 fun k => by simp only [laws_FnLabelLex.l1]; rw [if_neg (by omega)]
  | succ n ih =>
    intro i hi
    refine Ev.step (fun k => ?_) (ih (i + 1) (by omega))
    simp only [laws_FnLabelLex.l1]
    rw [if_pos (by omega), if_pos (by omega), if_pos (by simp; omega), rd_app l m i (by omega), if_neg (by simp), Small.w64s i (by omega)]

theorem scan (s : ByteArray) (hs : s.size ≤ 2147483647) (n : Nat) : ∀ i : Nat, i + n = s.size → (∀ j, j < i → by_ s j ≠ 0) → Ev (fun k => laws_FnLabelLex.l0 k s (i : Int)) true := by
  induction n with
  | zero =>
    intro i hi hz
    have hz' : ∀ j, j < s.size → by_ s j ≠ 0 := fun j hj => hz j (by omega)
    obtain ⟨r, r1, r2, r3⟩ := both s hs hz' s.size 0 [] (by omega) (by simp)
    refine Ev.step (f := fun k => (impl_LabelLex.f k s).bind fun t204 => ((spec_Pieces.f k s).bind fun t207 => (if (t204.length : Int) = (wrap64 ((t207.length : Int) + 1)) then (if 0 ≤ (t207.length : Int) then (if (t207.length : Int) < (t204.length : Int) then (laws_FnLabelLex.j1 k t204 t207 (((rd_T25 t204 (t207.length : Int)).f0) != 1)) else (none)) else (none)) else (laws_FnLabelLex.j1 k t204 t207 true)))) (fun k => ?_) (Ev.bind (a := r ++ [(⟨1, ⟨#[]⟩⟩ : S25)]) ?_ (Ev.bind (a := r) ?_ ?_))
    · simp only [laws_FnLabelLex.l0]
      rw [if_neg (by omega)]
    · unfold impl_LabelLex.f labels_ZzLexer.f; exact r2
    · unfold spec_Pieces.f; exact r1
    · have w : Aside0 (wrap64 ((r.length : Int) + 1) = ((r.length + 1 : Nat) : Int)) := ⟨Small.w64s r.length (by omega)⟩
      have hr : (rd_T25 (r ++ [(⟨1, ⟨#[]⟩⟩ : S25)]) (r.length : Int)).f0 = 1 := by
        unfold rd_T25
        rw [Int.toNat_natCast, List.getD_eq_getElem?_getD, List.getElem?_append_right (by omega)]; simp
      simp only [w.out, hr]
      refine Evs.yes (by simp) (Evs.yes (by omega) (Evs.yes (by rw [List.length_append, List.length_singleton]; omega) ?_))
      refine Ev.step (fun k => ?_) (cmp r [(⟨1, ⟨#[]⟩⟩ : S25)] (by omega) r.length 0 (by omega))
      simp only [laws_FnLabelLex.j1]
      rw [if_neg (by simp)]; rfl
  | succ n ih =>
    intro i hi hz
    have hlt : i < s.size := by omega
    by_cases h : by_ s i = 0
    · refine Evs.at1 fun k => ?_
      simp only [laws_FnLabelLex.l0]
      rw [if_pos (by omega), if_pos (by omega), by_at s i hlt, if_pos (by omega)]
    · refine Ev.step (fun k => ?_) (ih (i + 1) (by omega) (fun j hj => by
        by_cases e : j = i
        · rw [e]; exact h
        · exact hz j (by omega)))
      simp only [laws_FnLabelLex.l0]
      rw [if_pos (by omega), if_pos (by omega), by_at s i hlt, if_neg (by omega), Small.w64s i (by omega)]

theorem FnLabelLex : laws_FnLabelLex.Pure := by
  intro s _
  unfold laws_FnLabelLex.f
  by_cases h : (s.size : Int) > 2147483647
  · exact ⟨1, by rw [if_pos h]⟩
  · exact Ev.rounds (Evs.no h (scan s (by omega) s.size 0 (by omega) (fun j hj => by omega)))

end Go.Proofs.Ytlhbmifffmegeaa.Pure
