/- Texts sorted by the library's sort.StringSlice: they come in the one order in which none is below one ahead of it. -/
import Derived.Test.YthejejeginnbdaaGreatDoorShelf
import Derived.Test.YthejejeginnbdaaGreatDoorTxt
import Derived.Shelf.GgSortLib.LibTypes
import Derived.Sort.OwnSorted
import Derived.Sort.KeysCollected
import Derived.WalkKit
import Derived.WalkMore
set_option linter.unusedVariables false
set_option linter.unusedSimpArgs false
namespace Go.Proofs.YthejejeginnbdaaGreatDoor.FdS
open Go Go.RowKit Go.Sort Go.Proofs.YthejejeginnbdaaGreatDoorW.PrintWords Go.Proofs.YthejejeginnbdaaGreatDoor.Txt Go.Proofs.YthejejeginnbdaaGreatDoor

/-- The order in which texts come. -/
def srt (l : List (List UInt8)) : List (List UInt8) := l.mergeSort leB
theorem srt_of {l m : List (List UInt8)} (h : m.Perm l) (hs : m.Pairwise fun x y => ltStr y x = false) : m = srt l := by
  unfold srt
  rw [← mergeSort_of_perm h]
  refine (List.mergeSort_of_pairwise ?_).symm
  refine hs.imp fun {x y} hq => ?_
  unfold ltStr at hq
  have := of_decide_eq_false hq
  first | exact decide_eq_true (List.not_lt.1 this) | (unfold leB; exact decide_eq_true (List.not_lt.1 this))
theorem srt_len (l : List (List UInt8)) : (srt l).length = l.length := List.length_mergeSort l
abbrev mk (l : List UInt8) : ByteArray := ⟨l.toArray⟩
theorem mk_data (s : ByteArray) : mk s.data.toList = s := ext rfl
theorem encs_mk (us : List (List UInt8)) : encs Value.string (us.map mk) = us.map encStr := by
  unfold encs
  rw [List.map_map]; rfl
theorem encs_data (ts : List ByteArray) : encs Value.string ts = (ts.map fun s => s.data.toList).map encStr := by
  unfold encs
  rw [List.map_map]
  refine List.map_congr_left fun s _ => ?_
  show Value.string s = Value.string (mk s.data.toList)
  rw [mk_data]
theorem rLen : ∀ rv, Reaches Tryz.prog 87 rv "Len" 114 := fun rv => (show Finds Tryz.prog 87 "Len" 114 from fun _ _ => by kernel_rfl).reaches Tryz.func114 (by kernel_rfl) rv
theorem rLess : ∀ rv, Reaches Tryz.prog 87 rv "Less" 115 := fun rv => (show Finds Tryz.prog 87 "Less" 115 from fun _ _ => by kernel_rfl).reaches Tryz.func115 (by kernel_rfl) rv
theorem rSwap : ∀ rv, Reaches Tryz.prog 87 rv "Swap" 116 := fun rv => (show Finds Tryz.prog 87 "Swap" 116 from fun _ _ => by kernel_rfl).reaches Tryz.func116 (by kernel_rfl) rv
theorem perm_of {d d' : Array (List UInt8)} (h : PermIn 0 d.size d d') : d'.toList.Perm d.toList := by
  obtain ⟨h1, -, h2⟩ := h
  rw [← h1] at h2
  rw [Array.extract_eq_self_of_le (Nat.le_refl _)] at h2
  rw [h1, Array.extract_eq_self_of_le (Nat.le_refl _)] at h2
  exact h2
theorem sorted_of {d : Array (List UInt8)} {n : Nat} (hn : d.size = n) (h : SortedIn ltStr 0 n d) : d.toList.Pairwise fun x y => ltStr y x = false := by
  rw [List.pairwise_iff_getElem]
  intro i j hi hj hij
  have := h i j (Nat.zero_le _) hij (by rw [← hn]; simpa using hj)
  rw [getElem!_pos d i (by simpa using hi), getElem!_pos d j (by simpa using hj)] at this
  simpa using this
set_option maxRecDepth 1000000 in
theorem sort_call (w0 w : World) (hB : Below w0.heap.size w0 w) (A : Option Addr) (n c : Nat) (ts : List ByteArray) (hR : Kd.R Kd.string 9 w w0.heap.size (fun _ => True) (.slice A n c) ts) (hl : ts.length < 4611686018427387904) :
    Calls Tryz.prog 37 #[.iface 87 (.slice A n c)] w fun e w' => e = .returned (.tuple #[]) ∧ Kd.R Kd.string 9 w' w0.heap.size (fun _ => True) (.slice A n c) ((srt (ts.map fun s => s.data.toList)).map mk) ∧ Below w0.heap.size w0 w' := by
  have ho := Kd.own_of_R hR
  obtain ⟨hn, -⟩ := Kd.R_reads' hR
  by_cases h2 : 2 ≤ ts.length
  · rcases ho.2 with ⟨h0, h1⟩ | ⟨g, cap, cur, hv, hbase, hb, h3, h4, h5, h6⟩
    · injection h0 with a1 a2 a3; omega
    · injection hv with a1 a2 a3
      subst a1 a2 a3
      rw [Nat.mul_one, encs_data] at h6
      have hlen : (ts.map fun s => s.data.toList).length = ts.length := List.length_map ..
      obtain ⟨d, hdd0⟩ : ∃ d : Array (List UInt8), d = (ts.map fun s => s.data.toList).toArray := ⟨_, rfl⟩
      have hH : Holds encS w g 0 d := by rw [hdd0]; exact holds_of_block hb (by rw [hlen]; exact h6)
      have hblk : g < w.heap.size := (Array.getElem?_eq_some_iff.1 hb).1
      have hsz : d.size = ts.length := by rw [hdd0, List.size_toArray, hlen]
      have hl2 : d.size < 4611686018427387904 := by rw [hsz]; exact hl
      have h22 : 2 ≤ d.size := by rw [hsz]; exact h2
      have key := Tryz.sort_Sort_sorted 87 (.slice (some ⟨g, 0, none⟩) d.size c) 114 115 116 (rLen _) (rLess _) (rSwap _) encS ltStr swo_ltStr g 0 d h22 hl2 w (Tryz.StringSlice_Len _ _ _ _) (Tryz.StringSlice_LessM g 0 c d w hH hblk hl2) (Tryz.StringSlice_SwapM g 0 c d.size hl2) hH hblk
      rw [hsz] at key
      refine key.mono ?_
      rintro e w' ⟨rfl, d', m, os, hP, hS, rfl⟩
      rw [← hsz] at hP
      have hd : d'.size = ts.length := hP.1.trans hsz
      have hus := srt_of (l := ts.map fun s => s.data.toList) (m := d'.toList) (by have hq := perm_of hP; rw [hdd0] at hq; exact hq) (sorted_of hd hS)
      have hdd : d' = (srt (ts.map fun s => s.data.toList)).toArray := by rw [← hus]
      rw [hdd]
      have hsl : (srt (ts.map fun s => s.data.toList)).length = ts.length := by rw [srt_len, hlen]
      refine ⟨rfl, ?_, ?_⟩
      · refine Kd.R_of_own (h1 := fun _ => rfl) ?_ (fun _ _ => trivial)
        have := ownsRow_sorted (w := w) (base := w0.heap.size) (n := m) (os := os) (ss := ts.map fun s => s.data.toList) (ts := srt (ts.map fun s => s.data.toList)) (by rw [srt_len]) hbase hb (by rw [hlen]; exact h3) h4 h5
        rw [hlen] at this
        rw [List.length_map, hsl, encs_mk]
        exact this
      · exact pw_below_grown hB (some g) hB.size (grownBy_sorted _) (by intro k hk; injection hk with hk; omega)
  · refine (Tryz.sort_Sort_tiny (α := Nat) 87 (.slice A n c) 114 (rLen _) n (by omega) w (Tryz.StringSlice_Len _ _ _ _)).mono ?_
    rintro e w' ⟨rfl, q, rfl⟩
    have hsr : (srt (ts.map fun s => s.data.toList)).map mk = ts := by
      have : srt (ts.map fun s => s.data.toList) = ts.map fun s => s.data.toList := by
        refine (srt_of (List.Perm.refl _) ?_).symm
        match ts, h2 with
        | [], _ => exact List.Pairwise.nil
        | [a], _ => exact List.pairwise_singleton _ _
        | a :: b :: r, h2 => exact absurd (show 2 ≤ (a :: b :: r).length by simp) h2
      rw [this, List.map_map]
      have e : (mk ∘ fun s : ByteArray => s.data.toList) = id := by funext s; exact mk_data s
      rw [e, List.map_id]
    rw [hsr]
    exact ⟨rfl, Kd.R_drewN hR q, pw_below_drewN hB q⟩
set_option maxRecDepth 100000 in
theorem sort_any (w0 w : World) (hB : Below w0.heap.size w0 w) (A : Option Addr) (n c : Nat) (ts : List ByteArray) (hR : Kd.R Kd.string 9 w w0.heap.size (fun _ => True) (.slice A n c) ts) (hl : ts.length < 4611686018427387904) :
    Calls Tryz.prog 33 #[.slice A n c] w fun e w' => e = .returned (.tuple #[]) ∧ Kd.R Kd.string 9 w' w0.heap.size (fun _ => True) (.slice A n c) ((srt (ts.map fun s => s.data.toList)).map mk) ∧ Below w0.heap.size w0 w' := by
  have HC := Aside0.mk (sort_call w0 w hB A n c ts hR hl)
  clear hB hR hl
  go_enter Tryz.func33, Tryz.ntmps33
  go_wp2_with (first | (go_at_call 37; (with_reducible refine (HC.out).mono ?_); rintro e w1 ⟨rfl, hr, hb⟩; have HR := Aside0.mk hr; have HB := Aside0.mk hb; clear hr hb))
  go_end0
  exact ⟨rfl, HR.out, HB.out⟩
end Go.Proofs.YthejejeginnbdaaGreatDoor.FdS
