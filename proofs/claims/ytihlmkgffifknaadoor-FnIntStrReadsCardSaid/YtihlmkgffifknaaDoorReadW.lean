/- The reader of the fields: numbers in seven-bit pieces. -/
import Derived.Test.YtihlmkgffifknaaDoorWWords
import Derived.Test.YtihlmkgffifknaaDoorProg
import Derived.WalkKit
import Derived.RowKit
import Derived.Shelf.SlSortCmp.QuietGrown
import Derived.Lib.QuietBelow
import Derived.WalkMore
import Derived.KernelRfl
import Derived.Deep.QuietTactic
import Derived.BigQuiet
namespace Go.Proofs.YtihlmkgffifknaaDoor.Read
open Go Go.Sort Go.RowKit Go.Proofs.YtihlmkgffifknaaDoorW.PrintWords

def intOf : Value → Int | .int _ q => q | _ => 0
def BytesAt (w : World) (b off : Nat) (zs : List Int) : Prop := ∀ j, j < zs.length → w.cell? ⟨b, off + j, none⟩ = some (.int .u8 (zs.getD j 0))
def Bys (zs : List Int) : Prop := ∀ j : Nat, 0 ≤ zs.getD j 0 ∧ zs.getD j 0 ≤ 255
theorem BytesAt.below {w w' : World} {b off : Nat} {zs : List Int} (h : BytesAt w b off zs) (hb : Below w.heap.size w w') : BytesAt w' b off zs :=
  fun j hj => (hb.cell (World.block_lt_of_cell? w _ (h j hj))).trans (h j hj)
theorem BytesAt.drop {w : World} {b off cap : Nat} {zs : List Int} (h : BytesAt w b off zs) (hc : zs.length ≤ cap) (k : Nat) : BytesAt w b (if cap = k then off else off + k) (zs.drop k) := by
  intro j hj
  rw [List.length_drop] at hj
  rw [if_neg (by omega), Nat.add_assoc, h (k + j) (by omega)]
  simp
theorem Bys.drop {zs : List Int} (h : Bys zs) (k : Nat) : Bys (zs.drop k) := fun j => by simpa using h (k + j)
/-- One more byte's seven bits. -/
def vacc (x : Int) (i : Nat) (c : Int) : Int := bits .or .u64 x (IntKind.u64.wrap (c % 128 * 2 ^ (7 * i)))
/-- The number from the byte i on, and how many bytes it has. -/
def rv : Nat → Int → List Int → Option (Int × Nat)
  | _, _, [] => none
  | i, x, c :: cs => if i = 10 then none else if c < 128 then some (vacc x i c, i + 1) else rv (i + 1) (vacc x i c) cs
def rdOut (b off cap : Nat) (zs : List Int) : Value := match rv 0 0 zs with
  | some (v, k) => .tuple #[.int .u64 v, .slice (some ⟨b, if cap = k then off else off + k, none⟩) (zs.length - k) (cap - k), .bool true]
  | none => .tuple #[.int .u64 0, .slice none 0 0, .bool false]

theorem drop_at {zs : List Int} {k : Nat} (h : k < zs.length) : zs.drop k = zs.getD k 0 :: zs.drop (k + 1) := by
  rw [List.drop_eq_getElem_cons h, List.getD_eq_getElem?_getD, List.getElem?_eq_getElem h]; rfl
theorem rv_ten {zs : List Int} {k : Nat} {X : Int} (h : k < zs.length) (h10 : k = 10) : rv k X (zs.drop k) = none := by
  rw [drop_at h, rv, if_pos h10]

set_option maxRecDepth 100000 in
set_option maxHeartbeats 1000000 in
theorem read_calls (b off cap : Nat) (zs : List Int) (w : World) (hz : BytesAt w b off zs) (hr : Bys zs) (hmax : zs.length ≤ 2147483647) (hcap : zs.length ≤ cap) :
    Calls Tryd.prog 22 #[.slice (some ⟨b, off, none⟩) zs.length cap] w fun e w' => e = .returned (rdOut b off cap zs) ∧ Below w.heap.size w w' := by
  have HZ := Aside0.mk hz
  have HR := Aside0.mk hr
  clear hz hr
  go_enter Tryd.func22, Tryd.ntmps22
  go_wp2
  go_loopw [5, 6] (fun v i wr => ∃ (k : Nat) (X : Int), k ≤ zs.length ∧ k ≤ 10 ∧ i = .int .i64 k ∧ v = .int .u64 X ∧ Aside0 (rv 0 0 zs = rv k X (zs.drop k)) ∧ Aside0 (Below w.heap.size w wr)) (fun _ i _ => zs.length - (intOf i).toNat)
  case atStart => exact ⟨0, 0, by omega, by omega, rfl, rfl, ⟨rfl⟩, ⟨Below.refl _ _⟩⟩
  case round =>
    obtain ⟨k, X, hk, hk10, rfl, rfl, HV, HB⟩ := hrel
    by_cases hlt : k < zs.length
    · have q : ((k : Int) < (zs.length : Int)) = True := eq_true (by omega)
      by_cases h10 : k = 10
      · have q2 : ((k : Int) < 10) = False := eq_false (by omega)
        go_wp2
        go_ret3
        exact ⟨by unfold rdOut; rw [HV.out, rv_ten hlt h10]; rfl, HB.out⟩
      · have q2 : ((k : Int) < 10) = True := eq_true (by omega)
        have hx := HZ.out.below HB.out k hlt
        have hr1 := HR.out k
        have hd := Aside0.mk (drop_at hlt)
        generalize hc : zs.getD k 0 = c at hx hr1 hd
        by_cases h128 : c < 128
        · go_wp2
          repeat (go_quiet (fail); try go_wp2)
          · go_ret3
            exact ⟨by unfold rdOut; rw [HV.out, hd.out, rv, if_neg h10, if_pos h128]; simp [vacc, h], by repeat (first | (with_reducible exact HB.out) | apply below_alloc | apply pw_below_drewN | apply below_drew1)⟩
          · go_ret3
            exact ⟨by unfold rdOut; rw [HV.out, hd.out, rv, if_neg h10, if_pos h128]; simp [vacc, h], by repeat (first | (with_reducible exact HB.out) | apply below_alloc | apply pw_below_drewN | apply below_drew1)⟩
        · go_wp2
          go_roundw
          case rel => exact ⟨k + 1, _, by omega, by omega, by go_num, rfl, ⟨by rw [HV.out, hd.out, rv, if_neg h10, if_neg h128]; rfl⟩, HB⟩
          case measure => simp [intOf]; omega
    · have q : ((k : Int) < (zs.length : Int)) = False := eq_false (by omega)
      go_wp2
      go_ret3
      exact ⟨by unfold rdOut; rw [HV.out, List.drop_eq_nil_of_le (by omega)]; rfl, HB.out⟩
end Go.Proofs.YtihlmkgffifknaaDoor.Read
