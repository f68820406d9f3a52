/- Paths: the reference's text, as plain functions. -/
import Derived.Test.YtnopoobidhaccaaDoorPathV
import Derived.Test.YtnopoobidhaccaaDoorSmall
import Derived.Test.YtnopoobidhaccaaDoorTxt
import Derived.Test.YtnopoobidhaccaaDoorEvs
set_option linter.unusedVariables false
set_option linter.unusedSimpArgs false
namespace Go.Proofs.YtnopoobidhaccaaDoor.Path
open Go Go.RowKit Go.Proofs.YtnopoobidhaccaaDoor Go.Proofs.YtnopoobidhaccaaDoorW.PrintWords Go.Proofs.YtnopoobidhaccaaDoor.PFnPathText Go.Proofs.YtnopoobidhaccaaDoor.Txt

def dig (u : Nat) : ByteArray := ⟨(Lib.decDigits u).toArray⟩
theorem dig_data (u : Nat) : (dig u).data.toList = Lib.decDigits u := rfl
theorem dig_len : ∀ (k u : Nat), u < 10 ^ (k + 1) → (Lib.decDigits u).length ≤ k + 1 := by
  intro k u h
  rw [Lib.decDigits_length]
  induction k generalizing u with
  | zero => rw [Lib.nDigits_small (by omega)]; omega
  | succ k ih =>
    by_cases hu : u < 10
    · rw [Lib.nDigits_small hu]; omega
    · rw [Lib.nDigits_big hu]
      have := ih (u / 10) (by rw [Nat.pow_succ] at h; omega)
      omega
theorem dig_size (u : Nat) (h : u < 18446744073709551616) : (dig u).size ≤ 20 := by
  have := dig_len 19 u (by omega)
  show (Lib.decDigits u).toArray.size ≤ 20
  simpa using this
theorem dig_one (u : Nat) (h : u < 10) : strOfNums [((48 + u % 10 : Nat) : Int)] = dig u := by
  apply ext
  rw [dig_data, Lib.decDigits_one h, Nat.mod_eq_of_lt h]
  rfl
theorem dig_more (u : Nat) (h : ¬ u < 10) : dig (u / 10) ++ strOfNums [((48 + u % 10 : Nat) : Int)] = dig u := by
  apply ext
  rw [data_append, dig_data, dig_data, Lib.decDigits.eq_1 u, dif_neg h]
  rfl
theorem digits_f : ∀ (d u k : Nat), u < 10 ^ d → u < 18446744073709551616 → d ≤ k → 1 ≤ k → spec_digits.f k (u : Int) = some (dig u) := by
  intro d
  induction d with
  | zero =>
    intro u k h hu hk h1
    obtain ⟨k, rfl⟩ : ∃ j, k = j + 1 := ⟨k - 1, by omega⟩
    have h0 : u = 0 := by simp at h; omega
    subst h0
    rw [spec_digits.f]
    exact congrArg some (dig_one 0 (by omega))
  | succ d ih =>
    intro u k h hu hk h1
    obtain ⟨k, rfl⟩ : ∃ j, k = j + 1 := ⟨k - 1, by omega⟩
    rw [spec_digits.f]
    by_cases hs : u < 10
    · have e1 : (48 + (u : Int) % 256) % 256 = ((48 + u % 10 : Nat) : Int) := by omega
      rw [if_pos (by omega), e1, dig_one u hs]
    · have e1 : (48 + Int.tmod (u : Int) 10 % 256) % 256 = ((48 + u % 10 : Nat) : Int) := by
        rw [show Int.tmod (u : Int) 10 = ((u % 10 : Nat) : Int) from rfl]; omega
      have e2 : IntKind.u64.wrap (Int.tdiv (u : Int) 10) = ((u / 10 : Nat) : Int) := by
        rw [IntKind.wrap_u64, show Int.tdiv (u : Int) 10 = ((u / 10 : Nat) : Int) from rfl]; omega
      rw [if_neg (by omega), e2, ih (u / 10) k (by rw [Nat.pow_succ] at h; omega) (by omega) (by
        rcases d with _ | d
        · simp at h; omega
        · omega) (by rcases d with _ | d
                     · simp at h; omega
                     · omega), Option.bind_some, e1, Option.bind_some, dig_more u hs]
      have s1 := dig_size (u / 10) (by omega)
      have s2 : (strOfNums [((48 + u % 10 : Nat) : Int)]).size = 1 := rfl
      rw [if_pos (by omega)]
def itoaB (n : Int) : ByteArray := ⟨(Lib.itoa n).toArray⟩
theorem itoaB_size (n : Int) (h0 : -9223372036854775808 ≤ n) (h1 : n ≤ 9223372036854775807) : (itoaB n).size ≤ 21 := by
  show (Lib.itoa n).toArray.size ≤ 21
  rw [List.size_toArray]
  unfold Lib.itoa
  have k3 := dig_len 19 n.natAbs (by omega)
  have k4 := dig_len 19 n.toNat (by omega)
  split
  · rw [List.length_cons]; omega
  · omega
theorem number_f (n : Int) (h0 : -9223372036854775808 ≤ n) (h1 : n ≤ 9223372036854775807) (k : Nat) (hk : 20 ≤ k) : spec_number.f k n = some (itoaB n) := by
  unfold spec_number.f itoaB Lib.itoa
  by_cases hn : n < 0
  · have e : IntKind.u64.wrap (-(IntKind.u64.wrap n)) = (n.natAbs : Int) := by rw [IntKind.wrap_u64, IntKind.wrap_u64]; omega
    have s1 := dig_size n.natAbs (by omega)
    rw [if_pos hn, e, digits_f 20 n.natAbs k (by omega) (by omega) hk (by omega), Option.bind_some, if_pos (by omega), if_pos hn]
    congr 1
  · have e : IntKind.u64.wrap n = (n.toNat : Int) := by rw [IntKind.wrap_u64]; omega
    rw [if_neg hn, e, digits_f 20 n.toNat k (by omega) (by omega) hk (by omega), Option.bind_some, if_neg hn]; rfl
theorem path_ne (first : ByteArray) (more : List ByteArray) (ls : List S27) : (pathOf first more ls).isEmpty = false := by
  unfold pathOf names
  simp
theorem names_ne (first : ByteArray) (more : List ByteArray) : (names first more).isEmpty = false := by
  unfold names
  simp
def B (l : List UInt8) : ByteArray := ⟨l.toArray⟩
theorem B_size (l : List UInt8) : (B l).size = l.length := by show l.toArray.size = _; simp
theorem B_add (l : List UInt8) (s : ByteArray) : B l ++ s = B (l ++ s.data.toList) := by apply ext; rw [data_append]; rfl
theorem take_len (first : ByteArray) (more : List ByteArray) (ls : List S27) (m : Nat) : (ptext (pathOf first more (ls.take m))).length ≤ (ptext (pathOf first more ls)).length := by
  have h := ptext_drop (pathOf first more ls) (ls.length - m)
  have e : (pathOf first more ls).drop (ls.length - m) = pathOf first more (ls.take m) := by
    unfold pathOf
    rw [List.drop_append_of_le_length (by simp), List.drop_reverse]
    simp
    omega
  rw [e] at h
  exact h
theorem l1_f (first : ByteArray) (more : List ByteArray) (ls : List S27) (htxt : (ptext (pathOf first more ls)).length ≤ 70368744177664) (hlen : ls.length ≤ 1073741824) (hdo : ∀ x ∈ ls, (x.f0 = 0 ∧ x.f1.size ≠ 0) ∨ x.f0 = 1 ∨ x.f0 = 2)
    (hwf : ∀ x ∈ ls, -9223372036854775808 ≤ x.f2 ∧ x.f2 ≤ 9223372036854775807) : ∀ (n m k : Nat), m + n = ls.length → n + 30 ≤ k →
    spec_PathText.l1 k first ls (B (ptext (pathOf first more (ls.take m)))) (m : Int) = some (B (ptext (pathOf first more ls)), first) := by
  intro n
  induction n with
  | zero =>
    intro m k hm hk
    obtain ⟨k, rfl⟩ : ∃ j, k = j + 1 := ⟨k - 1, by omega⟩
    rw [spec_PathText.l1, if_neg (by omega), List.take_of_length_le (by omega)]
  | succ n ih =>
    intro m k hm hk
    obtain ⟨k, rfl⟩ : ∃ j, k = j + 1 := ⟨k - 1, by omega⟩
    have hlt : m < ls.length := by omega
    have hx : rd_T27 ls (m : Int) = ls[m] := by unfold rd_T27; rw [Int.toNat_natCast, List.getD_eq_getElem?_getD, List.getElem?_eq_getElem hlt]; rfl
    have hnx := ih (m + 1) k (by omega) (by omega)
    have hw := take_len first more ls (m + 1)
    rw [List.take_succ_eq_append_getElem hlt, pathOf_snoc, ptext, path_ne, List.length_append] at hw
    rw [List.take_succ_eq_append_getElem hlt, pathOf_snoc, ptext, path_ne] at hnx
    have hs := Small.w64s m (by omega)
    have hd := hdo ls[m] (List.getElem_mem hlt)
    have hf := hwf ls[m] (List.getElem_mem hlt)
    have hbs := B_size (ptext (pathOf first more (ls.take m)))
    rw [spec_PathText.l1, if_pos (by omega), if_pos (by omega), hx, hs]
    generalize ls[m] = x at hd hf hnx hw
    rcases hd with ⟨h0, hne⟩ | h1 | h2
    · have hp : piece (stepN x) false = (⟨#[46]⟩ ++ x.f1 : ByteArray).data.toList := by
        unfold stepN; rw [if_pos h0]; unfold piece; rw [if_neg hne, data_append]; rfl
      rw [hp, ← B_add] at hnx
      rw [hp, ← size_len] at hw
      have hz : (⟨#[46]⟩ ++ x.f1 : ByteArray).size = 1 + x.f1.size := by rw [ByteArray.size_append]; rfl
      rw [if_pos h0, if_pos (by omega), if_pos (by omega), hnx]
    · have hp : piece (stepN x) false = (⟨#[91]⟩ ++ itoaB x.f2 ++ ⟨#[93]⟩ : ByteArray).data.toList := by
        unfold stepN; rw [if_neg (by omega), if_pos h1]; unfold piece; rw [data_append, data_append]; rfl
      rw [hp, ← B_add] at hnx
      have h5 := itoaB_size x.f2 hf.1 hf.2
      have hz : (⟨#[91]⟩ ++ itoaB x.f2 : ByteArray).size = 1 + (itoaB x.f2).size := by rw [ByteArray.size_append]; rfl
      have hz2 : (⟨#[91]⟩ ++ itoaB x.f2 ++ ⟨#[93]⟩ : ByteArray).size = 1 + (itoaB x.f2).size + 1 := by rw [ByteArray.size_append, hz]; rfl
      rw [if_neg (by omega), if_pos h1, number_f x.f2 hf.1 hf.2 k (by omega), Option.bind_some, if_pos (by omega), if_pos (by omega), if_pos (by omega), hnx]
    · have hp : piece (stepN x) false = (⟨#[91]⟩ ++ x.f1 ++ ⟨#[93]⟩ : ByteArray).data.toList := by
        unfold stepN; rw [if_neg (by omega), if_neg (by omega)]; unfold piece; rw [data_append, data_append]; rfl
      rw [hp, ← B_add] at hnx
      rw [hp, ← size_len] at hw
      have hz : (⟨#[91]⟩ ++ x.f1 : ByteArray).size = 1 + x.f1.size := by rw [ByteArray.size_append]; rfl
      have hz2 : (⟨#[91]⟩ ++ x.f1 ++ ⟨#[93]⟩ : ByteArray).size = 1 + x.f1.size + 1 := by rw [ByteArray.size_append, hz]; rfl
      rw [if_neg (by omega), if_neg (by omega), if_pos h2, if_pos (by omega), if_pos (by omega), if_pos (by omega), hnx]
theorem names_take (first : ByteArray) (more : List ByteArray) (m : Nat) : (ptext (names first (more.take m))).length ≤ (ptext (names first more)).length := by
  have h := ptext_drop (names first more) (more.length - m)
  have e : (names first more).drop (more.length - m) = names first (more.take m) := by
    unfold names
    rw [List.drop_append_of_le_length (by simp), List.drop_reverse]
    simp
    omega
  rw [e] at h
  exact h
theorem l0_f (first : ByteArray) (more : List ByteArray) (ls : List S27) (htxt : (ptext (pathOf first more ls)).length ≤ 70368744177664) (hlen : ls.length ≤ 1073741824) (hlm : more.length ≤ 1073741824) (hdo : ∀ x ∈ ls, (x.f0 = 0 ∧ x.f1.size ≠ 0) ∨ x.f0 = 1 ∨ x.f0 = 2)
    (hwf : ∀ x ∈ ls, -9223372036854775808 ≤ x.f2 ∧ x.f2 ≤ 9223372036854775807) (hmo : ∀ s ∈ more, s.size ≠ 0) : ∀ (n m k : Nat), m + n = more.length → n + ls.length + 40 ≤ k →
    spec_PathText.l0 k first more ls (B (ptext (names first (more.take m)))) (m : Int) = some (B (ptext (pathOf first more ls)), first) := by
  intro n
  have ht2 : (ptext (names first more)).length ≤ 70368744177664 := by
    have h := take_len first more ls 0
    have e : pathOf first more (ls.take 0) = names first more := by simp [pathOf]
    rw [e] at h
    omega
  induction n with
  | zero =>
    intro m k hm hk
    obtain ⟨k, rfl⟩ : ∃ j, k = j + 1 := ⟨k - 1, by omega⟩
    rw [spec_PathText.l0, if_neg (by omega), List.take_of_length_le (by omega)]
    have h := l1_f first more ls htxt hlen hdo hwf ls.length 0 k (by omega) (by omega)
    have e : pathOf first more (ls.take 0) = names first more := by simp [pathOf]
    rw [e] at h
    exact h
  | succ n ih =>
    intro m k hm hk
    obtain ⟨k, rfl⟩ : ∃ j, k = j + 1 := ⟨k - 1, by omega⟩
    have hlt : m < more.length := by omega
    have hx : rdOf ByteArray.empty more (m : Int) = more[m] := by unfold rdOf; rw [Int.toNat_natCast, List.getD_eq_getElem?_getD, List.getElem?_eq_getElem hlt]; rfl
    have hnx := ih (m + 1) k (by omega) (by omega)
    have hw := names_take first more (m + 1)
    rw [List.take_succ_eq_append_getElem hlt, names_snoc, ptext, names_ne, List.length_append] at hw
    rw [List.take_succ_eq_append_getElem hlt, names_snoc, ptext, names_ne] at hnx
    have hs := Small.w64s m (by omega)
    have hd := hmo more[m] (List.getElem_mem hlt)
    have hbs := B_size (ptext (names first (more.take m)))
    rw [spec_PathText.l0, if_pos (by omega), if_pos (by omega), hx, hs]
    generalize more[m] = x at hd hnx hw
    have hp : piece (x, ⟨#[]⟩) false = (⟨#[46]⟩ ++ x : ByteArray).data.toList := by
      unfold piece; rw [if_neg hd, data_append]; rfl
    rw [hp, ← B_add] at hnx
    rw [hp, ← size_len] at hw
    have hz : (⟨#[46]⟩ ++ x : ByteArray).size = 1 + x.size := by rw [ByteArray.size_append]; rfl
    rw [if_pos (by omega), if_pos (by omega), hnx]
theorem text_f (first : ByteArray) (more : List ByteArray) (ls : List S27) (hf : first.size ≠ 0) (htxt : (ptext (pathOf first more ls)).length ≤ 70368744177664) (hlen : ls.length ≤ 1073741824) (hlm : more.length ≤ 1073741824) (hdo : ∀ x ∈ ls, (x.f0 = 0 ∧ x.f1.size ≠ 0) ∨ x.f0 = 1 ∨ x.f0 = 2)
    (hwf : ∀ x ∈ ls, -9223372036854775808 ≤ x.f2 ∧ x.f2 ≤ 9223372036854775807) (hmo : ∀ s ∈ more, s.size ≠ 0) (k : Nat) (hk : more.length + ls.length + 40 ≤ k) :
    spec_PathText.f k first more ls = some (B (ptext (pathOf first more ls)), first) ∧ B (ptext [(first, ⟨#[]⟩)]) = first := by
  have e : B (ptext [(first, ⟨#[]⟩)]) = first := by
    apply ext
    show ([] ++ piece (first, ⟨#[]⟩) true) = _
    unfold piece
    rw [if_neg hf]; rfl
  refine ⟨?_, e⟩
  have h := l0_f first more ls htxt hlen hlm hdo hwf hmo more.length 0 k (by omega) hk
  have e2 : names first (more.take 0) = [(first, ⟨#[]⟩)] := by simp [names]
  rw [e2, e] at h
  exact h
end Go.Proofs.YtnopoobidhaccaaDoor.Path
