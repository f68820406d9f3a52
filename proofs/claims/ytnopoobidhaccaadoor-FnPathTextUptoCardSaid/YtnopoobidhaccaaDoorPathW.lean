/- Paths: linked records, made. -/
import Derived.Test.YtnopoobidhaccaaDoorShelf
import Derived.Test.YtnopoobidhaccaaDoorWWords
import Derived.WalkKit
import Derived.WalkMore
import Derived.KernelRfl
import Derived.Shelf.SlSortCmp.QuietGrown
import Derived.Deep.QuietTactic
import Derived.BigQuiet
import Derived.Lib.AppendIntMem
set_option linter.unusedVariables false
set_option linter.unusedSimpArgs false
namespace Go.Proofs.YtnopoobidhaccaaDoor.Path
open Go Go.Sort Go.RowKit Go.Proofs.YtnopoobidhaccaaDoorW.PrintWords

def intOf : Value → Int | .int _ q => q | _ => 0
abbrev Nm := ByteArray × ByteArray
/-- A path in memory, from its last record to its first one: names and subscripts. -/
def IsPath (w : World) : Option Addr → List Nm → Prop
  | p, [] => p = none
  | p, x :: r => ∃ g p', p = some ⟨g, 0, none⟩ ∧ w.heap[g]? = some (.cells #[.string x.1, .string x.2, .pointer p'] 55 (0, 0)) ∧ IsPath w p' r
theorem IsPath.below {w w' : World} (hb : Below w.heap.size w w') : ∀ {L : List Nm} {p : Option Addr}, IsPath w p L → IsPath w' p L
  | [], _, h => h
  | _ :: _, _, ⟨g, p', h1, h2, h3⟩ => ⟨g, p', h1, blk_below h2 hb, h3.below hb⟩
/-- What is written at a new record does not touch an old path. -/
theorem IsPath.far {w w' : World} {B : Nat} (hs : ∀ k, k < B → w'.heap[k]? = w.heap[k]?) : ∀ {L : List Nm} {p : Option Addr}, IsPath w p L → (w.heap.size ≤ B) → IsPath w' p L
  | [], _, h, _ => h
  | _ :: _, _, ⟨g, p', h1, h2, h3⟩, hB => ⟨g, p', h1, (hs g (by have := blk_lt h2; omega)).trans h2, h3.far hs hB⟩
abbrev rec (n i : ByteArray) (p : Option Addr) : Obj := .cells #[.string n, .string i, .pointer p] 55 (0, 0)
theorem IsPath.new {w : World} {p : Option Addr} {L : List Nm} (h : IsPath w p L) (n i : ByteArray) : IsPath (w.alloc (rec n i p)) (some ⟨w.heap.size, 0, none⟩) ((n, i) :: L) :=
  ⟨w.heap.size, p, rfl, blk_new w _, h.below (below_alloc (Below.refl _ _) _)⟩

set_option maxRecDepth 100000 in
set_option maxHeartbeats 1000000 in
theorem key_calls (p : Option Addr) (L : List Nm) (k : ByteArray) (w : World) (h : IsPath w p L) :
    Calls Tryd.prog 17 #[.pointer p, .string k] w fun e w' => ∃ p', e = .returned (.pointer p') ∧ IsPath w' p' ((⟨#[]⟩, k) :: L) ∧ Below w.heap.size w w' := by
  have hu1 := Tryd.underlying55
  go_enter Tryd.func17, Tryd.ntmps17
  go_wp2
  go_ret
  exact ⟨_, rfl, h.new ⟨#[]⟩ k, below_alloc (Below.refl _ _) _⟩
set_option maxRecDepth 100000 in
set_option maxHeartbeats 1000000 in
theorem index_calls (p : Option Addr) (L : List Nm) (n : Int) (h0 : -9223372036854775808 ≤ n) (h1 : n ≤ 9223372036854775807) (w : World) (h : IsPath w p L) (htab : Lib.TabIs Tryd.prog w "internal/strconv.uint64pow10" .u64 Lib.pow10Tab) :
    Calls Tryd.prog 16 #[.pointer p, .int .i64 n] w fun e w' => ∃ p', e = .returned (.pointer p') ∧ IsPath w' p' ((⟨#[]⟩, ⟨(Lib.itoa n).toArray⟩) :: L) ∧ Below w.heap.size w w' := by
  have hu1 := Tryd.underlying55
  have HI : Aside0 (Calls Tryd.prog 24 #[.int .i64 n] w fun e w' => e = .returned (.string ⟨(Lib.itoa n).toArray⟩) ∧ Below w.heap.size w w') := ⟨(Tryd.strconv_Itoa n h0 h1 w htab).mono fun e w' hq => by
    obtain ⟨rfl, k, os, rfl⟩ := hq
    exact ⟨rfl, Lib.below_grow _ _ (Nat.le_refl _) k os⟩⟩
  clear htab h0 h1
  go_enter Tryd.func16, Tryd.ntmps16
  go_wp2_with (go_at_call 24; (with_reducible refine (HI.out).mono ?_); rintro e w1 ⟨rfl, hb⟩)
  go_ret
  exact ⟨_, rfl, (h.below hb).new ⟨#[]⟩ _, below_alloc hb _⟩
set_option maxRecDepth 100000 in
set_option maxHeartbeats 1000000 in
theorem root_calls (p : Option Addr) (L : List Nm) (x : Nm) (w : World) (h : IsPath w p (L ++ [x])) :
    Calls Tryd.prog 19 #[.pointer p] w fun e w' => ∃ p', e = .returned (.pointer p') ∧ IsPath w p' [x] ∧ w' = w := by
  have hu1 := Tryd.underlying55
  have H := Aside0.mk h
  clear h
  go_enter Tryd.func19, Tryd.ntmps19
  go_wp2
  go_loopg [0] (L.length + 1) (fun m v wr => ∃ (p' : Option Addr) (M : List Nm), v = .pointer p' ∧ Aside0 (IsPath w p' (M ++ [x])) ∧ M.length < m ∧ wr = w)
  case atStart => exact ⟨p, L, rfl, H, by omega, rfl⟩
  case round =>
    obtain ⟨p', M, rfl, H, hm, rfl⟩ := hrel
    cases M with
    | nil =>
      obtain ⟨g, p2, rfl, hg, rfl⟩ := H.out
      have c2 := blk_cell hg 2
      simp at c2
      go_wp2
      go_ret
      exact ⟨_, rfl, H.out, rfl⟩
    | cons y M =>
      obtain ⟨g, p2, rfl, hg, h3⟩ := H.out
      have c2 := blk_cell hg 2
      simp at c2
      have H3 := Aside0.mk h3
      have hne : p2.isSome = true := by
        cases M with
        | nil => obtain ⟨g2, _, rfl, _⟩ := h3; rfl
        | cons _ _ => obtain ⟨g2, _, rfl, _⟩ := h3; rfl
      obtain ⟨a2, rfl⟩ := Option.isSome_iff_exists.1 hne
      clear h3 hne hg H
      go_wp2
      obtain ⟨g1, rfl⟩ : ∃ j, gk = j + 1 := ⟨gk - 1, by omega⟩
      go_roundg g1
      case rel => exact ⟨some a2, M, rfl, H3, by simp at hm; omega, rfl⟩
      case measure => omega
/-- What is written at one new record. -/
theorem IsPath.set {w : World} {p : Option Addr} {L : List Nm} (h : IsPath w p L) {g i : Nat} {u : Value} (hne : w.heap.size ≤ g) : IsPath (w.setCell ⟨g, i, none⟩ u) p L :=
  h.far (B := w.heap.size) (fun k hk => Below.heap_setCell w ⟨g, i, none⟩ u k (by show k ≠ g; omega)) (Nat.le_refl _)
def names (first : ByteArray) (l : List ByteArray) : List Nm := (l.map fun s => (s, ⟨#[]⟩)).reverse ++ [(first, ⟨#[]⟩)]
theorem names_snoc (first : ByteArray) (l : List ByteArray) (s : ByteArray) : names first (l ++ [s]) = (s, ⟨#[]⟩) :: names first l := by simp [names]
set_option maxRecDepth 100000 in
set_option maxHeartbeats 1000000 in
theorem make_calls (first : ByteArray) (A : Option Addr) (cp : Nat) (l : List ByteArray) (w : World) (hl : Kd.C Kd.string w A l.length l) (hmax : l.length ≤ 2147483647) :
    Calls Tryd.prog 13 #[.string first, .slice A l.length cp] w fun e w' => ∃ p', e = .returned (.pointer p') ∧ IsPath w' p' (names first l) ∧ Below w.heap.size w w' := by
  have hu1 := Tryd.underlying55
  have HC := Aside0.mk hl
  clear hl
  go_enter Tryd.func13, Tryd.ntmps13
  go_wp2
  go_loopw [5, 13] (fun v i wr => ∃ (k : Nat) (p : Option Addr), k ≤ l.length ∧ i = .int .i64 k ∧ v = .pointer p ∧ Aside0 (IsPath wr p (names first (l.take k))) ∧ Aside0 (Below w.heap.size w wr)) (fun _ i _ => l.length - (intOf i).toNat)
  case atStart => exact ⟨0, _, Nat.zero_le _, rfl, rfl, ⟨(show IsPath w none [] from rfl).new first ⟨#[]⟩⟩, ⟨below_alloc (Below.refl _ _) _⟩⟩
  case round =>
    obtain ⟨k, p, hk, rfl, rfl, HP, HB⟩ := hrel
    by_cases hlt : k < l.length
    · have q0 : ((k : Int) < (l.length : Int)) = True := eq_true (by omega)
      obtain ⟨ad, rfl, hx⟩ := Kd.at_string HC.out (k : Int) (by omega) (by omega)
      have hx' := (HB.out).cell (World.block_lt_of_cell? w _ hx) |>.trans hx
      simp only [Int.toNat_natCast] at hx'
      clear hx
      go_wp2
      go_roundw
      case rel => exact ⟨k + 1, _, by omega, by go_num, rfl, ⟨by
        rw [List.take_succ_eq_append_getElem hlt, names_snoc]
        rw [show l[k] = rdOf ByteArray.empty l (k : Int) by unfold rdOf; rw [Int.toNat_natCast, List.getD_eq_getElem?_getD, List.getElem?_eq_getElem hlt]; rfl]
        exact HP.out.new _ _⟩, ⟨below_alloc HB.out _⟩⟩
      case measure => simp [intOf]; omega
    · have q0 : ((k : Int) < (l.length : Int)) = False := eq_false (by omega)
      go_wp2
      go_ret
      exact ⟨_, rfl, by have := HP.out; rw [List.take_of_length_le (by omega)] at this; exact this, HB.out⟩
set_option maxRecDepth 100000 in
set_option maxHeartbeats 1000000 in
theorem make_one (first : ByteArray) (w : World) :
    Calls Tryd.prog 13 #[.string first, .slice none 0 0] w fun e w' => e = .returned (.pointer (some ⟨w.heap.size, 0, none⟩)) ∧ w' = w.alloc (rec first ⟨#[]⟩ none) := by
  have hu1 := Tryd.underlying55
  go_enter Tryd.func13, Tryd.ntmps13
  go_wp2
  refine wp_loop_rounds 1 ?_
  rw [rounds_succ]
  go_wp2
  go_ret
  exact ⟨rfl, rfl⟩
set_option maxRecDepth 100000 in
set_option maxHeartbeats 1000000 in
theorem root_one (g : Nat) (n i : ByteArray) (w : World) (hg : w.heap[g]? = some (rec n i none)) :
    Calls Tryd.prog 19 #[.pointer (some ⟨g, 0, none⟩)] w fun e w' => e = .returned (.pointer (some ⟨g, 0, none⟩)) ∧ w' = w := by
  have hu1 := Tryd.underlying55
  have c2 : w.cell? ⟨g, 2, none⟩ = some (.pointer none) := blk_cell hg 2
  go_enter Tryd.func19, Tryd.ntmps19
  go_wp2
  refine wp_loop_rounds 1 ?_
  rw [rounds_succ]
  go_wp2
  go_ret
  exact ⟨rfl, rfl⟩
set_option maxRecDepth 100000 in
set_option maxHeartbeats 1000000 in
theorem child_calls (p : Option Addr) (L : List Nm) (n : ByteArray) (w : World) (h : IsPath w p L) :
    Calls Tryd.prog 15 #[.pointer p, .string n, .slice none 0 0] w fun e w' => ∃ p', e = .returned (.pointer p') ∧ IsPath w' p' ((n, ⟨#[]⟩) :: L) ∧ Below w.heap.size w w' := by
  have hu1 := Tryd.underlying55
  have HM := Aside0.mk (make_one n w)
  have HB : Aside0 (Below w.heap.size w (w.alloc (rec n ⟨#[]⟩ none))) := ⟨below_alloc (Below.refl _ _) _⟩
  have HN : Aside0 ((w.alloc (rec n ⟨#[]⟩ none)).heap[w.heap.size]? = some (rec n ⟨#[]⟩ none)) := ⟨blk_new w _⟩
  have HR := Aside0.mk (root_one w.heap.size n ⟨#[]⟩ (w.alloc (rec n ⟨#[]⟩ none)) HN.out)
  have c2 : (w.alloc (rec n ⟨#[]⟩ none)).cell? ⟨w.heap.size, 2, none⟩ = some (.pointer none) := blk_cell HN.out 2
  have f2 := blk_frozen HN.out 2
  go_enter Tryd.func15, Tryd.ntmps15
  go_wp2_with (first
    | (go_at_call 13; (with_reducible refine (HM.out).mono ?_); rintro e w1 ⟨rfl, rfl⟩)
    | (go_at_call 19; (with_reducible refine (HR.out).mono ?_); rintro e w2 ⟨rfl, rfl⟩))
  go_ret
  exact ⟨_, rfl, h.new n ⟨#[]⟩, below_alloc (Below.refl _ _) _⟩
end Go.Proofs.YtnopoobidhaccaaDoor.Path
