/- Versions: a version's text. -/
import Derived.Test.YtomoefldmgfaoaaDoorPvQ
import Derived.Test.YtomoefldmgfaoaaDoorVerW
import Derived.Lib.BufferOld
set_option linter.unusedVariables false
set_option linter.unusedSimpArgs false
namespace Go.Proofs.YtomoefldmgfaoaaDoor.Pv
open Go Go.RowKit Go.Proofs.YtomoefldmgfaoaaDoor Go.Proofs.YtomoefldmgfaoaaDoorW.PrintWords Go.Proofs.YtomoefldmgfaoaaDoor.PvH Go.Proofs.YtomoefldmgfaoaaDoor.Txt Go.Proofs.YtomoefldmgfaoaaDoor.Small

theorem parse_calls (s : ByteArray) (sem : Bool) (hs : s.size ≤ 1099511627776) (w : World) (hg : Good w) :
    Calls Tryd.prog 86 #[.string s, .bool sem] w fun e w' => Told w w' e sem (pparse sem (Lb s)) ∧ Below w.heap.size w w' := by
  have hfit : Fit s := by unfold Fit; omega
  obtain ⟨kv, hv⟩ := pieces_ev hfit
  by_cases c1 : (fieldsOf (Lb s)).1 = [] ∨ 10 ∈ (fieldsOf (Lb s)).2
  · exact parse_nil s sem kv hv c1 w
  · have c2 : (fieldsOf (Lb s)).1 ≠ [] := fun h => c1 (Or.inl h)
    have c3 : 10 ∉ (fieldsOf (Lb s)).2 := fun h => c1 (Or.inr h)
    have hp : pieces s = [s, mk (joinP (fieldsOf (Lb s)).1), mk (fieldsOf (Lb s)).2] := by
      unfold pieces; rw [if_neg c2, if_neg c3]
    rw [pparse_tail c2 c3]
    obtain ⟨f1, f2⟩ := fields_spec (Lb s)
    have f3 := congrArg List.length f2
    have f4 := ahead_len (Lb s)
    have f5 : s.size = (Lb s).length := size_len s
    have f6 := fields_len (Lb s)
    rw [List.length_append] at f3
    generalize (fieldsOf (Lb s)).1 = F at c2 hp f1 f3 f6 ⊢
    generalize (fieldsOf (Lb s)).2 = r at c3 hp f3 ⊢
    have hspl : spl (joinP F) = F := spl_join F c2 (fun f hf => nodot_of_dg (f1 f hf).2)
    have hj : (mk (joinP F)).size ≤ 1099511627776 := by rw [size_mk]; omega
    obtain ⟨ks, hks⟩ := (zsplit_ev hj).rounds
    rw [Lb_mk, hspl] at hks
    have hfs : ∀ f ∈ F, f ≠ [] ∧ f.length ≤ 1099511627776 := fun f hf => ⟨(f1 f hf).1, by
      obtain ⟨x, y, e⟩ := spl_sub F f hf
      have h8 := congrArg List.length e
      simp only [List.length_append] at h8
      omega⟩
    cases sem with
    | true => exact parse_sem s F r kv ks hv hp hks hfs (by omega) (by omega) (List.length_pos_iff.2 c2) w hg
    | false => exact parse_gen s F r kv ks hv hp hks hfs (by omega) (by omega) (List.length_pos_iff.2 c2) w hg

abbrev decs (ns : List Nat) : Bs := joinP (ns.map Lib.decDigits)
/-- A version's text. -/
def vtxt (ns : List Nat) (p b : Bs) : Bs := decs ns ++ (if p = [] then [] else 45 :: p) ++ (if b = [] then [] else 43 :: b)
theorem dec_len (u : Nat) (h : u < 18446744073709551616) : (Lib.decDigits u).length ≤ 20 := by
  have : ∀ (k u : Nat), u < 10 ^ (k + 1) → (Lib.decDigits u).length ≤ k + 1 := by
    intro k
    induction k with
    | zero => intro u h; rw [Lib.decDigits_one (by omega)]; simp
    | succ k ih =>
      intro u h
      by_cases hu : u < 10
      · rw [Lib.decDigits_one hu]; simp
      · rw [dec_last u (by omega), List.length_append]
        have := ih (u / 10) (by rw [Nat.pow_succ] at h; omega)
        simp; omega
  exact this 19 u (by omega)
theorem joinP_snoc : ∀ (l : List Bs) (x : Bs), l ≠ [] → joinP (l ++ [x]) = joinP l ++ 46 :: x
  | [], _, h => absurd rfl h
  | [a], x, _ => rfl
  | a :: b :: t, x, _ => by
    rw [joinP_cons a (by simp), List.cons_append, joinP_cons a (by simp), joinP_snoc (b :: t) x (by simp)]; simp
theorem decs_snoc (ns : List Nat) (n : Nat) (h : ns ≠ []) : decs (ns ++ [n]) = decs ns ++ [46] ++ Lib.decDigits n := by
  unfold decs
  rw [List.map_append, List.map_cons, List.map_nil, joinP_snoc _ _ (by simpa using h)]; simp
theorem decs_len : ∀ (ns : List Nat), (∀ n ∈ ns, n < 18446744073709551616) → (decs ns).length ≤ 21 * ns.length
  | [], _ => Nat.le_refl _
  | [a], h => by have := dec_len a (h a (by simp)); show (Lib.decDigits a).length ≤ _; simp; omega
  | a :: b :: t, h => by
    have h1 := dec_len a (h a (by simp))
    have h2 := decs_len (b :: t) (fun n hn => h n (List.mem_cons_of_mem _ hn))
    have e : decs (a :: b :: t) = Lib.decDigits a ++ 46 :: decs (b :: t) := by
      unfold decs; rw [List.map_cons, joinP_cons _ (by simp)]
    rw [e, List.length_append, List.length_cons]
    simp only [List.length_cons] at h2 ⊢
    omega
theorem cells_add (l k : List UInt8) : Lib.byteCells l ++ Lib.byteCells k = Lib.byteCells (l ++ k) := by simp [Lib.byteCells]
abbrev Buf (B b : Nat) (l : Bs) (w : World) : Prop := Lib.IsBuffer 106 5 B b (Lib.byteCells l) w
theorem buf_add {B b : Nat} {l k : Bs} {w : World} (h : Lib.IsBuffer 106 5 B b (Lib.byteCells l ++ Lib.byteCells k) w) : Buf B b (l ++ k) w := by rw [cells_add] at h; exact h
theorem buf_write {B b : Nat} {l : Bs} (s : ByteArray) {w : World} (h : Buf B b l w) (hB : B ≤ w.heap.size) (hl : l.length + s.size ≤ 140737488355328) :
    Calls Tryd.prog 83 #[.pointer (some ⟨b, 0, none⟩), .string s] w fun e w' => e = .returned (.tuple #[.int .i64 s.size, .nilIface]) ∧ Buf B b (l ++ Lb s) w' ∧ Below B w w' :=
  (Tryd.Buffer_WriteString B b _ s w h hB (Lib.byteCells_one _) (by rw [Lib.byteCells_length]; exact hl)).mono fun e w' ⟨h1, h2, h3⟩ => ⟨h1, buf_add h2, h3⟩
theorem buf_one {B b : Nat} {l : Bs} (c : UInt8) {w : World} (h : Buf B b l w) (hB : B ≤ w.heap.size) (hl : l.length + 1 ≤ 140737488355328) :
    Calls Tryd.prog 83 #[.pointer (some ⟨b, 0, none⟩), .string ⟨#[c]⟩] w fun e w' => e = .returned (.tuple #[.int .i64 1, .nilIface]) ∧ Buf B b (l ++ [c]) w' ∧ Below B w w' := buf_write ⟨#[c]⟩ h hB hl
theorem buf_mk {B b : Nat} {l : Bs} (k : Bs) {w : World} (h : Buf B b l w) (hB : B ≤ w.heap.size) (hl : l.length + k.length ≤ 140737488355328) :
    Calls Tryd.prog 83 #[.pointer (some ⟨b, 0, none⟩), .string (mk k)] w fun e w' => e = .returned (.tuple #[.int .i64 (mk k).size, .nilIface]) ∧ Buf B b (l ++ k) w' ∧ Below B w w' := buf_write (mk k) h hB (by rw [size_mk]; exact hl)
theorem fmt_mk (u : Nat) (hu : u < 18446744073709551616) (w : World) (h : Good w) : Calls Tryd.prog 84 #[.int .u64 (u : Int), .int .i64 10] w fun e w' => e = .returned (.string (mk (Lib.decDigits u))) ∧ Below w.heap.size w w' := Ver.fmt_calls u hu w h.2.2
theorem ver_at {w : World} {g c : Nat} {ns : List Nat} {sem : Bool} {p b : ByteArray} (h : IsVer w g c ns sem p b) (k : Nat) (hk : k < ns.length) : w.cell? ⟨c, k, none⟩ = some (.int .u64 (ns[k] : Int)) := by
  rw [blk_cell h.2 k]; simp [hk]
set_option maxHeartbeats 12800000 in
set_option maxRecDepth 100000 in
theorem str_calls (g c : Nat) (ns : List Nat) (sem : Bool) (p b : Bs) (hns : ∀ n ∈ ns, n < 18446744073709551616) (hl : ns.length ≤ 1099511627776) (hp : p.length ≤ 1099511627776) (hb : b.length ≤ 1099511627776) (w : World) (hv : IsVer w g c ns sem (mk p) (mk b)) (hg : Good w) :
    Calls Tryd.prog 62 #[.pointer (some ⟨g, 0, none⟩)] w fun e w' => e = .returned (.string (mk (vtxt ns p b))) ∧ Below w.heap.size w w' := by
  have mixed : Tryd.prog.follows .mixedOrders = true := by kernel_rfl
  have hu1 := Tryd.underlying90
  have hu2 := Tryd.underlying106
  have HV := Aside0.mk hv
  have HG := Aside0.mk hg
  have HN := Aside0.mk hns
  have HL := Aside0.mk hl
  have HPl := Aside0.mk hp
  have HBl := Aside0.mk hb
  have c0 : w.cell? ⟨g, 0, none⟩ = some (.slice (some ⟨c, 0, none⟩) ns.length ns.length) := blk_cell hv.1 0
  have hgl : g < w.heap.size := blk_lt hv.1
  have hcl : c < w.heap.size := blk_lt hv.2
  have I0 : Aside0 (Buf w.heap.size w.heap.size [] _) := ⟨Lib.fresh_isBuffer 106 5 w⟩
  have HJ : Aside0 (∀ k, k ≤ ns.length → (decs (ns.take k)).length ≤ 21 * ns.length) := ⟨fun k hk => by
    have := decs_len (ns.take k) (fun n hn => hns n (List.mem_of_mem_take hn))
    rw [List.length_take] at this
    omega⟩
  clear hns hl hp hb hv hg
  go_enter Tryd.func62, Tryd.ntmps62
  go_wp2
  go_loopw [13] (fun i wr => ∃ k : Nat, k ≤ ns.length ∧ i = .int .i64 (k : Int) ∧ Aside0 (Buf w.heap.size w.heap.size (decs (ns.take k)) wr) ∧ Aside0 (Below w.heap.size w wr)) (fun i _ => ns.length - (intOf i).toNat)
  case atStart => exact ⟨0, Nat.zero_le _, rfl, I0, ⟨below_alloc (Below.refl _ _) _⟩⟩
  case round =>
    clear I0 c0
    obtain ⟨k, hk, rfl, HI, HB⟩ := hrel
    by_cases hlt : k < ns.length
    · have p : (0 ≤ (k : Int)) = True := eq_true (by omega)
      have q : ((k : Int) < (ns.length : Int)) = True := eq_true (by omega)
      have x0 : wr.cell? ⟨c, k, none⟩ = some (.int .u64 (ns[k] : Int)) := ver_at (HV.out.below HB.out) k hlt
      have hu := HN.out _ (List.getElem_mem hlt)
      have w9 : wrap64 ((k : Int) + 1) = (k : Int) + 1 := w64 _ (by omega) (by have := HL.out; omega)
      have hj := HJ.out k hk
      have hll := HL.out
      have ht : ns.take (k + 1) = ns.take k ++ [ns[k]] := List.take_succ_eq_append_getElem hlt
      by_cases k0 : k = 0
      · subst k0
        have hd : Aside0 (decs (ns.take (0 + 1)) = Lib.decDigits ns[0]) := ⟨by rw [ht]; rfl⟩
        have hz : (0 : Nat) = (0 : Nat) := rfl
        clear ht hj w9
        generalize ns[0] = u at x0 hu hd
        have hu20 := dec_len u hu
        have I1 : Aside0 (Buf w.heap.size w.heap.size [] wr) := ⟨HI.out⟩
        go_wp2_with (first
          | (go_at_call 84; (with_reducible refine (fmt_mk u hu _ (HG.out.below HB.out)).mono ?_); rintro e w2 ⟨rfl, hb⟩; have I2 := Aside0.mk (Lib.IsBuffer.old I1.out hb); have B2 := Aside0.mk (below_step HB.out hb); clear hb)
          | (go_at_call 83; (with_reducible refine (buf_mk _ I2.out B2.out.size (by simp only [List.length_nil]; omega)).mono ?_); rintro e w3 ⟨rfl, hi, hb⟩; have I3 := Aside0.mk hi; have B3 := Aside0.mk (B2.out.trans hb); clear hi hb))
        go_roundw
        case measure => exact less_of hlt
        case rel => exact ⟨1, hlt, rfl, ⟨by rw [hd.out]; exact I3.out⟩, B3⟩
      · have z1 : ((k : Int) > 0) = True := eq_true (by omega)
        have z2 : decide ((0 : Int) < (k : Int)) = true := decide_eq_true (by omega)
        have hd : Aside0 (decs (ns.take (k + 1)) = decs (ns.take k) ++ [46] ++ Lib.decDigits ns[k]) := ⟨by rw [ht, decs_snoc _ _ (by intro e; have := congrArg List.length e; rw [List.length_take, List.length_nil] at this; omega)]⟩
        clear ht
        generalize ns[k] = u at x0 hu hd
        have hu20 := dec_len u hu
        obtain ⟨J, hJ⟩ : ∃ J, J = decs (ns.take k) := ⟨_, rfl⟩
        rw [← hJ] at HI hj hd
        clear hJ
        have hj' : J.length ≤ 30000000000000 := by omega
        clear hj hll
        have W9 := Aside0.mk w9
        clear w9
        go_wp2_with (first
          | (go_at_call 83; (with_reducible refine (buf_one _ HI.out HB.out.size (by omega)).mono ?_); rintro e w3 ⟨rfl, hi, hb⟩; have I3 := Aside0.mk hi; have B3 := Aside0.mk (HB.out.trans hb); clear hi hb)
          | (go_at_call 84; (with_reducible refine (fmt_mk u hu _ (HG.out.below B3.out)).mono ?_); rintro e w4 ⟨rfl, hb⟩; have I4 := Aside0.mk (Lib.IsBuffer.old I3.out hb); have B4 := Aside0.mk (below_step B3.out hb); clear hb)
          | (go_at_call 83; (with_reducible refine (buf_mk _ I4.out B4.out.size (by rw [List.length_append]; simp only [List.length_cons, List.length_nil]; omega)).mono ?_); rintro e w5 ⟨rfl, hi, hb⟩; have I5 := Aside0.mk hi; have B5 := Aside0.mk (B4.out.trans hb); clear hi hb))
        go_roundw
        case measure => rw [W9.out]; exact less_of hlt
        case rel => exact ⟨k + 1, hlt, by rw [W9.out]; simp, ⟨by rw [hd.out]; exact I5.out⟩, B5⟩
    · have q : ((k : Int) < (ns.length : Int)) = False := eq_false (by omega)
      obtain rfl : k = ns.length := by omega
      have hj := HJ.out ns.length (Nat.le_refl _)
      rw [List.take_length] at HI hj
      have hj' : Aside0 ((decs ns).length ≤ 30000000000000) := ⟨by have := HL.out; omega⟩
      have V := Aside0.mk (HV.out.below HB.out)
      have k2 : wr.cell? ⟨g, 2, none⟩ = some (.string (mk p)) := blk_cell V.out.1 2
      have k3 : wr.cell? ⟨g, 3, none⟩ = some (.string (mk b)) := blk_cell V.out.1 3
      clear hj hk
      by_cases hp : p = [] <;> by_cases hb : b = []
      · have p1 : (p == []) = true := beq_iff_eq.2 hp
        have b1 : (b == []) = true := beq_iff_eq.2 hb
        have ht : vtxt ns p b = decs ns := by unfold vtxt; rw [if_pos hp, if_pos hb]; simp
        have HT := Aside0.mk ht
        clear ht hp hb
        go_wp2_with (first
          | (go_at_call 85; (with_reducible refine (Tryd.Buffer_String _ _ _ _ HI.out).mono ?_); rintro e wz ⟨rfl, nz, rfl⟩))
        go_ret
        exact ⟨by rw [HT.out]; first | rfl | (simp; done), pw_below_drewN HB.out _⟩
      · have p1 : (p == []) = true := beq_iff_eq.2 hp
        have b1 : (b == []) = false := beq_eq_false_iff_ne.2 hb
        have ht : vtxt ns p b = decs ns ++ [43] ++ b := by unfold vtxt; rw [if_pos hp, if_neg hb]; simp
        have HT := Aside0.mk ht
        clear ht hp hb
        go_wp2_with (first
          | (go_at_call 83; (with_reducible refine (buf_one _ HI.out HB.out.size (by (try simp only [List.length_append, List.length_cons, List.length_nil]); have := hj'.out; have := HPl.out; have := HBl.out; omega)).mono ?_); rintro e w1 ⟨rfl, hi, hb'⟩; have I1 := Aside0.mk hi; have B1 := Aside0.mk (HB.out.trans hb'); have V1 := Aside0.mk (HV.out.below B1.out); have k2 : w1.cell? ⟨g, 2, none⟩ = some (.string (mk p)) := blk_cell V1.out.1 2; have k3 : w1.cell? ⟨g, 3, none⟩ = some (.string (mk b)) := blk_cell V1.out.1 3; clear hi hb')
          | (go_at_call 83; (with_reducible refine (buf_mk _ I1.out B1.out.size (by (try simp only [List.length_append, List.length_cons, List.length_nil]); have := hj'.out; have := HPl.out; have := HBl.out; omega)).mono ?_); rintro e w2 ⟨rfl, hi, hb'⟩; have I2 := Aside0.mk hi; have B2 := Aside0.mk (B1.out.trans hb');  clear hi hb')
          | (go_at_call 85; (with_reducible refine (Tryd.Buffer_String _ _ _ _ I2.out).mono ?_); rintro e wz ⟨rfl, nz, rfl⟩))
        go_ret
        exact ⟨by rw [HT.out]; first | rfl | (simp; done), pw_below_drewN B2.out _⟩
      · have p1 : (p == []) = false := beq_eq_false_iff_ne.2 hp
        have b1 : (b == []) = true := beq_iff_eq.2 hb
        have ht : vtxt ns p b = decs ns ++ [45] ++ p := by unfold vtxt; rw [if_neg hp, if_pos hb]; simp
        have HT := Aside0.mk ht
        clear ht hp hb
        go_wp2_with (first
          | (go_at_call 83; (with_reducible refine (buf_one _ HI.out HB.out.size (by (try simp only [List.length_append, List.length_cons, List.length_nil]); have := hj'.out; have := HPl.out; have := HBl.out; omega)).mono ?_); rintro e w1 ⟨rfl, hi, hb'⟩; have I1 := Aside0.mk hi; have B1 := Aside0.mk (HB.out.trans hb'); have V1 := Aside0.mk (HV.out.below B1.out); have k2 : w1.cell? ⟨g, 2, none⟩ = some (.string (mk p)) := blk_cell V1.out.1 2; have k3 : w1.cell? ⟨g, 3, none⟩ = some (.string (mk b)) := blk_cell V1.out.1 3; clear hi hb')
          | (go_at_call 83; (with_reducible refine (buf_mk _ I1.out B1.out.size (by (try simp only [List.length_append, List.length_cons, List.length_nil]); have := hj'.out; have := HPl.out; have := HBl.out; omega)).mono ?_); rintro e w2 ⟨rfl, hi, hb'⟩; have I2 := Aside0.mk hi; have B2 := Aside0.mk (B1.out.trans hb'); have V2 := Aside0.mk (HV.out.below B2.out); have k2 : w2.cell? ⟨g, 2, none⟩ = some (.string (mk p)) := blk_cell V2.out.1 2; have k3 : w2.cell? ⟨g, 3, none⟩ = some (.string (mk b)) := blk_cell V2.out.1 3; clear hi hb')
          | (go_at_call 85; (with_reducible refine (Tryd.Buffer_String _ _ _ _ I2.out).mono ?_); rintro e wz ⟨rfl, nz, rfl⟩))
        go_ret
        exact ⟨by rw [HT.out]; first | rfl | (simp; done), pw_below_drewN B2.out _⟩
      · have p1 : (p == []) = false := beq_eq_false_iff_ne.2 hp
        have b1 : (b == []) = false := beq_eq_false_iff_ne.2 hb
        have ht : vtxt ns p b = decs ns ++ [45] ++ p ++ [43] ++ b := by unfold vtxt; rw [if_neg hp, if_neg hb]; simp
        have HT := Aside0.mk ht
        clear ht hp hb
        go_wp2_with (first
          | (go_at_call 83; (with_reducible refine (buf_one _ HI.out HB.out.size (by (try simp only [List.length_append, List.length_cons, List.length_nil]); have := hj'.out; have := HPl.out; have := HBl.out; omega)).mono ?_); rintro e w1 ⟨rfl, hi, hb'⟩; have I1 := Aside0.mk hi; have B1 := Aside0.mk (HB.out.trans hb'); have V1 := Aside0.mk (HV.out.below B1.out); have k2 : w1.cell? ⟨g, 2, none⟩ = some (.string (mk p)) := blk_cell V1.out.1 2; have k3 : w1.cell? ⟨g, 3, none⟩ = some (.string (mk b)) := blk_cell V1.out.1 3; clear hi hb')
          | (go_at_call 83; (with_reducible refine (buf_mk _ I1.out B1.out.size (by (try simp only [List.length_append, List.length_cons, List.length_nil]); have := hj'.out; have := HPl.out; have := HBl.out; omega)).mono ?_); rintro e w2 ⟨rfl, hi, hb'⟩; have I2 := Aside0.mk hi; have B2 := Aside0.mk (B1.out.trans hb'); have V2 := Aside0.mk (HV.out.below B2.out); have k2 : w2.cell? ⟨g, 2, none⟩ = some (.string (mk p)) := blk_cell V2.out.1 2; have k3 : w2.cell? ⟨g, 3, none⟩ = some (.string (mk b)) := blk_cell V2.out.1 3; clear hi hb')
          | (go_at_call 83; (with_reducible refine (buf_one _ I2.out B2.out.size (by (try simp only [List.length_append, List.length_cons, List.length_nil]); have := hj'.out; have := HPl.out; have := HBl.out; omega)).mono ?_); rintro e w3 ⟨rfl, hi, hb'⟩; have I3 := Aside0.mk hi; have B3 := Aside0.mk (B2.out.trans hb'); have V3 := Aside0.mk (HV.out.below B3.out); have k2 : w3.cell? ⟨g, 2, none⟩ = some (.string (mk p)) := blk_cell V3.out.1 2; have k3 : w3.cell? ⟨g, 3, none⟩ = some (.string (mk b)) := blk_cell V3.out.1 3; clear hi hb')
          | (go_at_call 83; (with_reducible refine (buf_mk _ I3.out B3.out.size (by (try simp only [List.length_append, List.length_cons, List.length_nil]); have := hj'.out; have := HPl.out; have := HBl.out; omega)).mono ?_); rintro e w4 ⟨rfl, hi, hb'⟩; have I4 := Aside0.mk hi; have B4 := Aside0.mk (B3.out.trans hb');  clear hi hb')
          | (go_at_call 85; (with_reducible refine (Tryd.Buffer_String _ _ _ _ I4.out).mono ?_); rintro e wz ⟨rfl, nz, rfl⟩))
        go_ret
        exact ⟨by rw [HT.out]; first | rfl | (simp; done), pw_below_drewN B4.out _⟩
end Go.Proofs.YtomoefldmgfaoaaDoor.Pv
