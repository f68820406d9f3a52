/- Functions of the program as plain Lean functions, and that the machine's calls do what these say: written for this claim by wip/myprint.py over the kit's print.py. -/
import Derived.Test.YtlhbmifffmegeaaDoorPFnNeedEqualx0
import Derived.Test.YtlhbmifffmegeaaDoorPFnNeedEqualx2
import Derived.Test.YtlhbmifffmegeaaDoorPFnNeedEqualx4
namespace Go.Proofs.YtlhbmifffmegeaaDoor.PFnNeedEqual
open Go.RowKit Go.Proofs.YtlhbmifffmegeaaDoorW.PrintWords Go.Proofs.YtlhbmifffmegeaaDoorW.PrintLast Go.Proofs.YtlhbmifffmegeaaDoorW.PrintMore
attribute [local go_sem] max2_int min2_int max_two min_two max_three min_three max_four min_four   -- for this text's walks alone
set_option linter.unusedVariables false
set_option linter.unusedSimpArgs false

/-! ### impl_made: function 25 -/
/-- How many values an operator asks for. -/
def NeedOk (op : ByteArray) (vals : List ByteArray) : Prop :=
  ((op.data.toList = [105, 110] ∨ op.data.toList = [110, 111, 116, 105, 110]) ∧ vals ≠ []) ∨ ((op.data.toList = [61] ∨ op.data.toList = [61, 61] ∨ op.data.toList = [33, 61]) ∧ vals.length = 1) ∨
  ((op.data.toList = [101, 120, 105, 115, 116, 115] ∨ op.data.toList = [33]) ∧ vals = []) ∨ ((op.data.toList = [103, 116] ∨ op.data.toList = [108, 116]) ∧ ∃ v n, vals = [v] ∧ Lib.parseIntB 64 v.data.toList = .ok n ∧ v.size ≤ 4294967296)
theorem toL_data (a0 : ByteArray) : a0.toList = a0.data.toList := by
  have hh : ∀ (n i : Nat) (r : List UInt8), i + n = a0.size → ByteArray.toList.loop a0 i r = r.reverse ++ a0.data.toList.drop i := by
    intro n
    have hz := sz_len a0
    induction n with
    | zero => intro i r h; rw [ByteArray.toList.loop, if_neg (by omega), List.drop_eq_nil_of_le (by omega), List.append_nil]
    | succ n ih =>
      intro i r h
      have hi : i < a0.data.toList.length := by omega
      have hg : a0.get! i = a0.data.toList[i] := by
        show a0.data[i]! = _
        rw [getElem!_pos a0.data i (by show i < a0.size; omega)]; rfl
      rw [ByteArray.toList.loop, if_pos (by omega), ih (i + 1) _ (by omega), List.drop_eq_getElem_cons hi, hg]
      simp
  have := hh a0.size 0 [] (by omega)
  unfold ByteArray.toList
  rw [this]; simp
set_option maxRecDepth 100000 in
set_option maxHeartbeats 2000000 in
theorem new_0 (key op : ByteArray) (A : Option Addr) (c : Nat) (vals : List ByteArray) (w : World) (hC : Kd.C Kd.string w A vals.length vals) (hn : vals.length ≤ 4294967296) (hop : op.data.toList = [105, 110]) (h : vals ≠ []) :
    Calls Tryd.prog 40 #[.string key, .string op, .slice A vals.length c, .slice none 0 0] w fun e w' => ∃ N, e = .returned (.tuple #[.pointer (some ⟨N, 0, none⟩), .nilIface]) ∧ w.heap.size ≤ N ∧ w'.heap[N]? = some (.cells #[.string key, .string op, .slice A vals.length c] 54 (0, 0)) ∧ Below w.heap.size w w' := by
  have mixed : Tryd.prog.follows .mixedOrders = true := by kernel_rfl
  have hu1 := Tryd.underlying54
  have hl : op.toList = [105, 110] := by rw [toL_data, hop]
  have t0 : (op.toList == [105, 110]) = true := by rw [hl]; rfl
  have t1 : (op.toList == [110, 111, 116, 105, 110]) = false := by rw [hl]; rfl
  have t2 : (op.toList == [61]) = false := by rw [hl]; rfl
  have t3 : (op.toList == [61, 61]) = false := by rw [hl]; rfl
  have t4 : (op.toList == [33, 61]) = false := by rw [hl]; rfl
  have t5 : (op.toList == [101, 120, 105, 115, 116, 115]) = false := by rw [hl]; rfl
  have t6 : (op.toList == [33]) = false := by rw [hl]; rfl
  have t7 : (op.toList == [103, 116]) = false := by rw [hl]; rfl
  have t8 : (op.toList == [108, 116]) = false := by rw [hl]; rfl
  have hpos : 0 < vals.length := List.length_pos_iff.2 h
  have f0 : ((vals.length : Int) == 0) = false := beq_eq_false_iff_ne.2 (by omega)
  have f1 : (vals.length = 0) = False := eq_false (by omega)
  have f2 : (vals = []) = False := eq_false h
  clear hl hop h hC
  clear hpos
  go_enter Tryd.func40, Tryd.ntmps40
  go_wp2
  go_ret2
  exact ⟨_, rfl, Nat.le_refl _, blk_new w _, below_alloc (Below.refl _ _) _⟩
set_option maxRecDepth 100000 in
set_option maxHeartbeats 2000000 in
theorem new_1 (key op : ByteArray) (A : Option Addr) (c : Nat) (vals : List ByteArray) (w : World) (hC : Kd.C Kd.string w A vals.length vals) (hn : vals.length ≤ 4294967296) (hop : op.data.toList = [110, 111, 116, 105, 110]) (h : vals ≠ []) :
    Calls Tryd.prog 40 #[.string key, .string op, .slice A vals.length c, .slice none 0 0] w fun e w' => ∃ N, e = .returned (.tuple #[.pointer (some ⟨N, 0, none⟩), .nilIface]) ∧ w.heap.size ≤ N ∧ w'.heap[N]? = some (.cells #[.string key, .string op, .slice A vals.length c] 54 (0, 0)) ∧ Below w.heap.size w w' := by
  have mixed : Tryd.prog.follows .mixedOrders = true := by kernel_rfl
  have hu1 := Tryd.underlying54
  have hl : op.toList = [110, 111, 116, 105, 110] := by rw [toL_data, hop]
  have t0 : (op.toList == [105, 110]) = false := by rw [hl]; rfl
  have t1 : (op.toList == [110, 111, 116, 105, 110]) = true := by rw [hl]; rfl
  have t2 : (op.toList == [61]) = false := by rw [hl]; rfl
  have t3 : (op.toList == [61, 61]) = false := by rw [hl]; rfl
  have t4 : (op.toList == [33, 61]) = false := by rw [hl]; rfl
  have t5 : (op.toList == [101, 120, 105, 115, 116, 115]) = false := by rw [hl]; rfl
  have t6 : (op.toList == [33]) = false := by rw [hl]; rfl
  have t7 : (op.toList == [103, 116]) = false := by rw [hl]; rfl
  have t8 : (op.toList == [108, 116]) = false := by rw [hl]; rfl
  have hpos : 0 < vals.length := List.length_pos_iff.2 h
  have f0 : ((vals.length : Int) == 0) = false := beq_eq_false_iff_ne.2 (by omega)
  have f1 : (vals.length = 0) = False := eq_false (by omega)
  have f2 : (vals = []) = False := eq_false h
  clear hl hop h hC
  clear hpos
  go_enter Tryd.func40, Tryd.ntmps40
  go_wp2
  go_ret2
  exact ⟨_, rfl, Nat.le_refl _, blk_new w _, below_alloc (Below.refl _ _) _⟩
set_option maxRecDepth 100000 in
set_option maxHeartbeats 2000000 in
theorem new_2 (key op : ByteArray) (A : Option Addr) (c : Nat) (vals : List ByteArray) (w : World) (hC : Kd.C Kd.string w A vals.length vals) (hn : vals.length ≤ 4294967296) (hop : op.data.toList = [61]) (h : vals.length = 1) :
    Calls Tryd.prog 40 #[.string key, .string op, .slice A vals.length c, .slice none 0 0] w fun e w' => ∃ N, e = .returned (.tuple #[.pointer (some ⟨N, 0, none⟩), .nilIface]) ∧ w.heap.size ≤ N ∧ w'.heap[N]? = some (.cells #[.string key, .string op, .slice A vals.length c] 54 (0, 0)) ∧ Below w.heap.size w w' := by
  have mixed : Tryd.prog.follows .mixedOrders = true := by kernel_rfl
  have hu1 := Tryd.underlying54
  have hl : op.toList = [61] := by rw [toL_data, hop]
  have t0 : (op.toList == [105, 110]) = false := by rw [hl]; rfl
  have t1 : (op.toList == [110, 111, 116, 105, 110]) = false := by rw [hl]; rfl
  have t2 : (op.toList == [61]) = true := by rw [hl]; rfl
  have t3 : (op.toList == [61, 61]) = false := by rw [hl]; rfl
  have t4 : (op.toList == [33, 61]) = false := by rw [hl]; rfl
  have t5 : (op.toList == [101, 120, 105, 115, 116, 115]) = false := by rw [hl]; rfl
  have t6 : (op.toList == [33]) = false := by rw [hl]; rfl
  have t7 : (op.toList == [103, 116]) = false := by rw [hl]; rfl
  have t8 : (op.toList == [108, 116]) = false := by rw [hl]; rfl
  have f0 : ((vals.length : Int) != 1) = false := by rw [h]; rfl
  have f1 : (vals.length = 1) = True := eq_true h
  clear hl hop h hC
  go_enter Tryd.func40, Tryd.ntmps40
  go_wp2
  go_ret2
  exact ⟨_, rfl, Nat.le_refl _, blk_new w _, below_alloc (Below.refl _ _) _⟩
set_option maxRecDepth 100000 in
set_option maxHeartbeats 2000000 in
theorem new_3 (key op : ByteArray) (A : Option Addr) (c : Nat) (vals : List ByteArray) (w : World) (hC : Kd.C Kd.string w A vals.length vals) (hn : vals.length ≤ 4294967296) (hop : op.data.toList = [61, 61]) (h : vals.length = 1) :
    Calls Tryd.prog 40 #[.string key, .string op, .slice A vals.length c, .slice none 0 0] w fun e w' => ∃ N, e = .returned (.tuple #[.pointer (some ⟨N, 0, none⟩), .nilIface]) ∧ w.heap.size ≤ N ∧ w'.heap[N]? = some (.cells #[.string key, .string op, .slice A vals.length c] 54 (0, 0)) ∧ Below w.heap.size w w' := by
  have mixed : Tryd.prog.follows .mixedOrders = true := by kernel_rfl
  have hu1 := Tryd.underlying54
  have hl : op.toList = [61, 61] := by rw [toL_data, hop]
  have t0 : (op.toList == [105, 110]) = false := by rw [hl]; rfl
  have t1 : (op.toList == [110, 111, 116, 105, 110]) = false := by rw [hl]; rfl
  have t2 : (op.toList == [61]) = false := by rw [hl]; rfl
  have t3 : (op.toList == [61, 61]) = true := by rw [hl]; rfl
  have t4 : (op.toList == [33, 61]) = false := by rw [hl]; rfl
  have t5 : (op.toList == [101, 120, 105, 115, 116, 115]) = false := by rw [hl]; rfl
  have t6 : (op.toList == [33]) = false := by rw [hl]; rfl
  have t7 : (op.toList == [103, 116]) = false := by rw [hl]; rfl
  have t8 : (op.toList == [108, 116]) = false := by rw [hl]; rfl
  have f0 : ((vals.length : Int) != 1) = false := by rw [h]; rfl
  have f1 : (vals.length = 1) = True := eq_true h
  clear hl hop h hC
  go_enter Tryd.func40, Tryd.ntmps40
  go_wp2
  go_ret2
  exact ⟨_, rfl, Nat.le_refl _, blk_new w _, below_alloc (Below.refl _ _) _⟩
set_option maxRecDepth 100000 in
set_option maxHeartbeats 2000000 in
theorem new_4 (key op : ByteArray) (A : Option Addr) (c : Nat) (vals : List ByteArray) (w : World) (hC : Kd.C Kd.string w A vals.length vals) (hn : vals.length ≤ 4294967296) (hop : op.data.toList = [33, 61]) (h : vals.length = 1) :
    Calls Tryd.prog 40 #[.string key, .string op, .slice A vals.length c, .slice none 0 0] w fun e w' => ∃ N, e = .returned (.tuple #[.pointer (some ⟨N, 0, none⟩), .nilIface]) ∧ w.heap.size ≤ N ∧ w'.heap[N]? = some (.cells #[.string key, .string op, .slice A vals.length c] 54 (0, 0)) ∧ Below w.heap.size w w' := by
  have mixed : Tryd.prog.follows .mixedOrders = true := by kernel_rfl
  have hu1 := Tryd.underlying54
  have hl : op.toList = [33, 61] := by rw [toL_data, hop]
  have t0 : (op.toList == [105, 110]) = false := by rw [hl]; rfl
  have t1 : (op.toList == [110, 111, 116, 105, 110]) = false := by rw [hl]; rfl
  have t2 : (op.toList == [61]) = false := by rw [hl]; rfl
  have t3 : (op.toList == [61, 61]) = false := by rw [hl]; rfl
  have t4 : (op.toList == [33, 61]) = true := by rw [hl]; rfl
  have t5 : (op.toList == [101, 120, 105, 115, 116, 115]) = false := by rw [hl]; rfl
  have t6 : (op.toList == [33]) = false := by rw [hl]; rfl
  have t7 : (op.toList == [103, 116]) = false := by rw [hl]; rfl
  have t8 : (op.toList == [108, 116]) = false := by rw [hl]; rfl
  have f0 : ((vals.length : Int) != 1) = false := by rw [h]; rfl
  have f1 : (vals.length = 1) = True := eq_true h
  clear hl hop h hC
  go_enter Tryd.func40, Tryd.ntmps40
  go_wp2
  go_ret2
  exact ⟨_, rfl, Nat.le_refl _, blk_new w _, below_alloc (Below.refl _ _) _⟩
set_option maxRecDepth 100000 in
set_option maxHeartbeats 2000000 in
theorem new_5 (key op : ByteArray) (A : Option Addr) (c : Nat) (vals : List ByteArray) (w : World) (hC : Kd.C Kd.string w A vals.length vals) (hn : vals.length ≤ 4294967296) (hop : op.data.toList = [101, 120, 105, 115, 116, 115]) (h : vals = []) :
    Calls Tryd.prog 40 #[.string key, .string op, .slice A vals.length c, .slice none 0 0] w fun e w' => ∃ N, e = .returned (.tuple #[.pointer (some ⟨N, 0, none⟩), .nilIface]) ∧ w.heap.size ≤ N ∧ w'.heap[N]? = some (.cells #[.string key, .string op, .slice A vals.length c] 54 (0, 0)) ∧ Below w.heap.size w w' := by
  have mixed : Tryd.prog.follows .mixedOrders = true := by kernel_rfl
  have hu1 := Tryd.underlying54
  have hl : op.toList = [101, 120, 105, 115, 116, 115] := by rw [toL_data, hop]
  have t0 : (op.toList == [105, 110]) = false := by rw [hl]; rfl
  have t1 : (op.toList == [110, 111, 116, 105, 110]) = false := by rw [hl]; rfl
  have t2 : (op.toList == [61]) = false := by rw [hl]; rfl
  have t3 : (op.toList == [61, 61]) = false := by rw [hl]; rfl
  have t4 : (op.toList == [33, 61]) = false := by rw [hl]; rfl
  have t5 : (op.toList == [101, 120, 105, 115, 116, 115]) = true := by rw [hl]; rfl
  have t6 : (op.toList == [33]) = false := by rw [hl]; rfl
  have t7 : (op.toList == [103, 116]) = false := by rw [hl]; rfl
  have t8 : (op.toList == [108, 116]) = false := by rw [hl]; rfl
  have f0 : ((vals.length : Int) != 0) = false := by rw [h]; rfl
  have f1 : (vals.length = 0) = True := eq_true (by rw [h]; rfl)
  have f2 : (vals = []) = True := eq_true h
  clear hl hop h hC
  go_enter Tryd.func40, Tryd.ntmps40
  go_wp2
  go_ret2
  exact ⟨_, rfl, Nat.le_refl _, blk_new w _, below_alloc (Below.refl _ _) _⟩
set_option maxRecDepth 100000 in
set_option maxHeartbeats 2000000 in
theorem new_6 (key op : ByteArray) (A : Option Addr) (c : Nat) (vals : List ByteArray) (w : World) (hC : Kd.C Kd.string w A vals.length vals) (hn : vals.length ≤ 4294967296) (hop : op.data.toList = [33]) (h : vals = []) :
    Calls Tryd.prog 40 #[.string key, .string op, .slice A vals.length c, .slice none 0 0] w fun e w' => ∃ N, e = .returned (.tuple #[.pointer (some ⟨N, 0, none⟩), .nilIface]) ∧ w.heap.size ≤ N ∧ w'.heap[N]? = some (.cells #[.string key, .string op, .slice A vals.length c] 54 (0, 0)) ∧ Below w.heap.size w w' := by
  have mixed : Tryd.prog.follows .mixedOrders = true := by kernel_rfl
  have hu1 := Tryd.underlying54
  have hl : op.toList = [33] := by rw [toL_data, hop]
  have t0 : (op.toList == [105, 110]) = false := by rw [hl]; rfl
  have t1 : (op.toList == [110, 111, 116, 105, 110]) = false := by rw [hl]; rfl
  have t2 : (op.toList == [61]) = false := by rw [hl]; rfl
  have t3 : (op.toList == [61, 61]) = false := by rw [hl]; rfl
  have t4 : (op.toList == [33, 61]) = false := by rw [hl]; rfl
  have t5 : (op.toList == [101, 120, 105, 115, 116, 115]) = false := by rw [hl]; rfl
  have t6 : (op.toList == [33]) = true := by rw [hl]; rfl
  have t7 : (op.toList == [103, 116]) = false := by rw [hl]; rfl
  have t8 : (op.toList == [108, 116]) = false := by rw [hl]; rfl
  have f0 : ((vals.length : Int) != 0) = false := by rw [h]; rfl
  have f1 : (vals.length = 0) = True := eq_true (by rw [h]; rfl)
  have f2 : (vals = []) = True := eq_true h
  clear hl hop h hC
  go_enter Tryd.func40, Tryd.ntmps40
  go_wp2
  go_ret2
  exact ⟨_, rfl, Nat.le_refl _, blk_new w _, below_alloc (Below.refl _ _) _⟩
set_option maxRecDepth 100000 in
set_option maxHeartbeats 2000000 in
theorem new_7 (key op : ByteArray) (A : Option Addr) (c : Nat) (vals : List ByteArray) (w : World) (hC : Kd.C Kd.string w A vals.length vals) (hn : vals.length ≤ 4294967296) (hop : op.data.toList = [103, 116]) (v : ByteArray) (n : Int) (h : vals = [v]) (hp : Lib.parseIntB 64 v.data.toList = .ok n) (hv : v.size ≤ 4294967296) :
    Calls Tryd.prog 40 #[.string key, .string op, .slice A vals.length c, .slice none 0 0] w fun e w' => ∃ N, e = .returned (.tuple #[.pointer (some ⟨N, 0, none⟩), .nilIface]) ∧ w.heap.size ≤ N ∧ w'.heap[N]? = some (.cells #[.string key, .string op, .slice A vals.length c] 54 (0, 0)) ∧ Below w.heap.size w w' := by
  have mixed : Tryd.prog.follows .mixedOrders = true := by kernel_rfl
  have hu1 := Tryd.underlying54
  have hl : op.toList = [103, 116] := by rw [toL_data, hop]
  have t0 : (op.toList == [105, 110]) = false := by rw [hl]; rfl
  have t1 : (op.toList == [110, 111, 116, 105, 110]) = false := by rw [hl]; rfl
  have t2 : (op.toList == [61]) = false := by rw [hl]; rfl
  have t3 : (op.toList == [61, 61]) = false := by rw [hl]; rfl
  have t4 : (op.toList == [33, 61]) = false := by rw [hl]; rfl
  have t5 : (op.toList == [101, 120, 105, 115, 116, 115]) = false := by rw [hl]; rfl
  have t6 : (op.toList == [33]) = false := by rw [hl]; rfl
  have t7 : (op.toList == [103, 116]) = true := by rw [hl]; rfl
  have t8 : (op.toList == [108, 116]) = false := by rw [hl]; rfl
  subst h
  have f1 : ([v].length = 1) = True := eq_true rfl
  obtain ⟨ad, rfl, hx⟩ := Kd.at_string hC (0 : Int) (by omega) (by simp)
  have hx0 : w.cell? ad = some (.string v) := by rw [show ((0 : Int)).toNat = 0 from rfl, Addr.add_zero'] at hx; simpa [rdOf] using hx
  have HX := Aside0.mk (World.block_lt_of_cell? w _ hx0)
  have HP := Aside0.mk (fun w => Tryd.strconv_ParseInt_10_at64_ok v (by omega) n hp w)
  clear hp hx hC hv
  clear hl hop
  go_enter Tryd.func40, Tryd.ntmps40
  go_wp2
  refine wp_loop_rounds 2 ?_
  rw [rounds_succ]
  go_wp2_with (first | (go_at_call 44; (with_reducible refine (HP.out _).mono ?_); rintro e w1 ⟨rfl, hw⟩; have HB : Aside0 (Below w.heap.size w w1) := ⟨(by rcases hw with rfl | ⟨t, rfl⟩; exact Below.refl _ _; exact Lib.bytesWorld_below _ _ _)⟩; clear hw HP))
  rw [rounds_succ]
  go_wp2
  go_ret2
  exact ⟨_, rfl, HB.out.size, blk_new w1 _, below_alloc HB.out _⟩
set_option maxRecDepth 100000 in
set_option maxHeartbeats 2000000 in
theorem new_8 (key op : ByteArray) (A : Option Addr) (c : Nat) (vals : List ByteArray) (w : World) (hC : Kd.C Kd.string w A vals.length vals) (hn : vals.length ≤ 4294967296) (hop : op.data.toList = [108, 116]) (v : ByteArray) (n : Int) (h : vals = [v]) (hp : Lib.parseIntB 64 v.data.toList = .ok n) (hv : v.size ≤ 4294967296) :
    Calls Tryd.prog 40 #[.string key, .string op, .slice A vals.length c, .slice none 0 0] w fun e w' => ∃ N, e = .returned (.tuple #[.pointer (some ⟨N, 0, none⟩), .nilIface]) ∧ w.heap.size ≤ N ∧ w'.heap[N]? = some (.cells #[.string key, .string op, .slice A vals.length c] 54 (0, 0)) ∧ Below w.heap.size w w' := by
  have mixed : Tryd.prog.follows .mixedOrders = true := by kernel_rfl
  have hu1 := Tryd.underlying54
  have hl : op.toList = [108, 116] := by rw [toL_data, hop]
  have t0 : (op.toList == [105, 110]) = false := by rw [hl]; rfl
  have t1 : (op.toList == [110, 111, 116, 105, 110]) = false := by rw [hl]; rfl
  have t2 : (op.toList == [61]) = false := by rw [hl]; rfl
  have t3 : (op.toList == [61, 61]) = false := by rw [hl]; rfl
  have t4 : (op.toList == [33, 61]) = false := by rw [hl]; rfl
  have t5 : (op.toList == [101, 120, 105, 115, 116, 115]) = false := by rw [hl]; rfl
  have t6 : (op.toList == [33]) = false := by rw [hl]; rfl
  have t7 : (op.toList == [103, 116]) = false := by rw [hl]; rfl
  have t8 : (op.toList == [108, 116]) = true := by rw [hl]; rfl
  subst h
  have f1 : ([v].length = 1) = True := eq_true rfl
  obtain ⟨ad, rfl, hx⟩ := Kd.at_string hC (0 : Int) (by omega) (by simp)
  have hx0 : w.cell? ad = some (.string v) := by rw [show ((0 : Int)).toNat = 0 from rfl, Addr.add_zero'] at hx; simpa [rdOf] using hx
  have HX := Aside0.mk (World.block_lt_of_cell? w _ hx0)
  have HP := Aside0.mk (fun w => Tryd.strconv_ParseInt_10_at64_ok v (by omega) n hp w)
  clear hp hx hC hv
  clear hl hop
  go_enter Tryd.func40, Tryd.ntmps40
  go_wp2
  refine wp_loop_rounds 2 ?_
  rw [rounds_succ]
  go_wp2_with (first | (go_at_call 44; (with_reducible refine (HP.out _).mono ?_); rintro e w1 ⟨rfl, hw⟩; have HB : Aside0 (Below w.heap.size w w1) := ⟨(by rcases hw with rfl | ⟨t, rfl⟩; exact Below.refl _ _; exact Lib.bytesWorld_below _ _ _)⟩; clear hw HP))
  rw [rounds_succ]
  go_wp2
  go_ret2
  exact ⟨_, rfl, HB.out.size, blk_new w1 _, below_alloc HB.out _⟩
theorem new_ok (key op : ByteArray) (A : Option Addr) (c : Nat) (vals : List ByteArray) (w : World) (hC : Kd.C Kd.string w A vals.length vals) (hn : vals.length ≤ 4294967296) (h : NeedOk op vals) :
    Calls Tryd.prog 40 #[.string key, .string op, .slice A vals.length c, .slice none 0 0] w fun e w' => ∃ N, e = .returned (.tuple #[.pointer (some ⟨N, 0, none⟩), .nilIface]) ∧ w.heap.size ≤ N ∧ w'.heap[N]? = some (.cells #[.string key, .string op, .slice A vals.length c] 54 (0, 0)) ∧ Below w.heap.size w w' := by
  rcases h with ⟨h | h, hv⟩ | ⟨h | h | h, hv⟩ | ⟨h | h, hv⟩ | ⟨h | h, v, n, hv, hp, hz⟩
  · exact new_0 key op A c vals w hC hn h hv
  · exact new_1 key op A c vals w hC hn h hv
  · exact new_2 key op A c vals w hC hn h hv
  · exact new_3 key op A c vals w hC hn h hv
  · exact new_4 key op A c vals w hC hn h hv
  · exact new_5 key op A c vals w hC hn h hv
  · exact new_6 key op A c vals w hC hn h hv
  · exact new_7 key op A c vals w hC hn h v n hv hp hz
  · exact new_8 key op A c vals w hC hn h v n hv hp hz
theorem texts_all (vals : List ByteArray) (hn : vals.length ≤ 4294967296) : impl_texts.f vals = some vals := by
  unfold impl_texts.f
  simp only [Option.bind_some, List.length_nil, List.nil_append]
  rw [if_pos (by omega)]
set_option maxRecDepth 100000 in
set_option maxHeartbeats 2000000 in
theorem made_ok (key op : ByteArray) (A : Option Addr) (c : Nat) (vals : List ByteArray) (w : World) (hC : Kd.C Kd.string w A vals.length vals) (hc : vals.length ≤ c) (hn : vals.length ≤ 4294967296) (h : NeedOk op vals) :
    Calls Tryd.prog 25 #[.agg #[.string key, .string op, .slice A vals.length c]] w fun e w' => ∃ N A' c', e = .returned (.tuple #[.pointer (some ⟨N, 0, none⟩), .nilIface]) ∧ w.heap.size ≤ N ∧ w'.heap[N]? = some (.cells #[.string key, .string op, .slice A' vals.length c'] 54 (0, 0)) ∧ vals.length ≤ c' ∧ Kd.C Kd.string w' A' vals.length vals ∧ Below w.heap.size w w' := by
  have mixed : Tryd.prog.follows .mixedOrders = true := by kernel_rfl
  have hu1 := Tryd.underlying24
  have HT := Aside0.mk (fun (w1 : World) (h1 : Kd.C Kd.string w1 A vals.length vals) => impl_texts.calls A c vals vals w1 h1 hc (texts_all vals hn))
  have HC := Aside0.mk hC
  have HN := Aside0.mk h
  clear h hC
  go_enter Tryd.func25, Tryd.ntmps25
  go_wp2
  obtain ⟨W, hW⟩ : ∃ W, W = w.alloc (.cells #[.string key, .string op, .slice A vals.length c] 24) := ⟨_, rfl⟩
  have HWb : Aside0 (Below w.heap.size w W) := ⟨by rw [hW]; exact below_alloc (Below.refl _ _) _⟩
  have HK : Aside0 (W.heap[w.heap.size]? = some (.cells #[.string key, .string op, .slice A vals.length c] 24 (0, 0))) := ⟨by rw [hW]; exact blk_new w _⟩
  rw [← hW]
  have c0 : W.drew.cell? ⟨w.heap.size, 0, none⟩ = some (.string key) := blk_cell (blk_drew HK.out) 0
  have c1 : W.drew.cell? ⟨w.heap.size, 1, none⟩ = some (.string op) := blk_cell (blk_drew HK.out) 1
  have c2 : W.drew.cell? ⟨w.heap.size, 2, none⟩ = some (.slice A vals.length c) := blk_cell (blk_drew HK.out) 2
  clear hW
  go_region_held3 (fun w' => w'.cell? ⟨w.heap.size, 0, none⟩ = some (.string key) ∧ w'.cell? ⟨w.heap.size, 1, none⟩ = some (.string op) ∧ w'.cell? ⟨w.heap.size, 2, none⟩ = some (.slice A vals.length c)) (first | exact ⟨c0, c1, c2⟩ | exact ⟨d0, d1, d2⟩ | exact ⟨e0, e1, e2⟩)
    (first
      | (go_at_call 41; refine (HT.out _ (Kd.C_drew (Kd.C_below HC.out HWb.out))).mono ?_; rintro e w1 ⟨v0, rfl, hr, hb⟩; obtain ⟨A1, c1', rfl⟩ := Kd.R_slice hr; have HR := Aside0.mk (Kd.R_reads' hr).2; have HB1 := Aside0.mk (below_step (below_drew1 HWb.out) hb); have hk := blk_below (blk_drew HK.out) hb; have d0 := blk_cell hk 0; have d1 := blk_cell hk 1; have d2 := blk_cell hk 2; have HK1 := Aside0.mk hk; clear hk hr hb)
      | (go_at_call 40; refine (new_ok key op A1 c1' vals _ HR.out.2 hn HN.out).mono ?_; rintro e w2 ⟨N, rfl, hN, hb, hw⟩; have HNN := Aside0.mk hN; have HNB := Aside0.mk hb; have HB2 := Aside0.mk (below_step HB1.out hw); have HC2 := Aside0.mk (Kd.C_below HR.out.2 hw); have hk := blk_below HK1.out hw; have e0 := blk_cell hk 0; have e1 := blk_cell hk 1; have e2 := blk_cell hk 2; clear hk hN hb hw))
  all_goals go_wp2
  all_goals go_ret2
  exact ⟨N, A1, c1', rfl, Nat.le_trans HB1.out.size HNN.out, HNB.out, HR.out.1, HC2.out, HB2.out⟩
/-- As NeedOk, to be reckoned. -/
def needOkB (op : ByteArray) (vals : List ByteArray) : Bool :=
  if op.data.toList = [105, 110] ∨ op.data.toList = [110, 111, 116, 105, 110] then decide (0 < vals.length)
  else if op.data.toList = [61] ∨ op.data.toList = [61, 61] ∨ op.data.toList = [33, 61] then decide (vals.length = 1)
  else if op.data.toList = [101, 120, 105, 115, 116, 115] ∨ op.data.toList = [33] then decide (vals.length = 0)
  else if op.data.toList = [103, 116] ∨ op.data.toList = [108, 116] then (match vals with | [v] => (NeedN.num v.data.toList).isSome && decide (v.size ≤ 4294967296) | _ => false)
  else false
theorem needOk_of {op : ByteArray} {vals : List ByteArray} (h : needOkB op vals = true) : NeedOk op vals := by
  unfold needOkB at h
  unfold NeedOk
  by_cases h1 : op.data.toList = [105, 110] ∨ op.data.toList = [110, 111, 116, 105, 110]
  · rw [if_pos h1, decide_eq_true_eq] at h
    exact Or.inl ⟨h1, List.length_pos_iff.1 h⟩
  rw [if_neg h1] at h
  by_cases h2 : op.data.toList = [61] ∨ op.data.toList = [61, 61] ∨ op.data.toList = [33, 61]
  · rw [if_pos h2, decide_eq_true_eq] at h
    exact Or.inr (Or.inl ⟨h2, h⟩)
  rw [if_neg h2] at h
  by_cases h3 : op.data.toList = [101, 120, 105, 115, 116, 115] ∨ op.data.toList = [33]
  · rw [if_pos h3, decide_eq_true_eq] at h
    exact Or.inr (Or.inr (Or.inl ⟨h3, List.eq_nil_of_length_eq_zero h⟩))
  rw [if_neg h3] at h
  by_cases h4 : op.data.toList = [103, 116] ∨ op.data.toList = [108, 116]
  · rw [if_pos h4] at h
    match vals, h with
    | [v], h =>
      simp only [Bool.and_eq_true, decide_eq_true_eq] at h
      obtain ⟨n, hn⟩ := Option.isSome_iff_exists.1 h.1
      exact Or.inr (Or.inr (Or.inr ⟨h4, v, n, rfl, NeedN.okOf_ok ((NeedN.num_parse _).trans hn), h.2⟩))
    | [], h => cases h
    | _ :: _ :: _, h => cases h
  rw [if_neg h4] at h
  cases h
/-! ### slices_Equal_string_string: function 42 -/
def slices_Equal_string_string.l0 : Nat → List ByteArray → List ByteArray → Int → Int → Option (Bool)
  | 0, _, _, _, _ => none
  | k + 1, x0, x1, x12, x13 => if x13 < x12 then (if 0 ≤ x13 then (if x13 < (x0.length : Int) then (if x13 < (x1.length : Int) then (if (rdOf ByteArray.empty x0 x13).toList = (rdOf ByteArray.empty x1 x13).toList then (slices_Equal_string_string.l0 k x0 x1 x12 (wrap64 (x13 + 1))) else (some false)) else (none)) else (none)) else (none)) else (some true)
def slices_Equal_string_string.f (k : Nat) (l0 : List ByteArray) (l1 : List ByteArray) : Option (Bool) := if (l0.length : Int) = (l1.length : Int) then (slices_Equal_string_string.l0 k l0 l1 (l0.length : Int) 0) else (some false)
theorem slices_Equal_string_string.mono_l : ∀ k, (∀ y0 y1 y2 y3, LeO (slices_Equal_string_string.l0 k y0 y1 y2 y3) (slices_Equal_string_string.l0 (k + 1) y0 y1 y2 y3))
  | 0 => fun _ _ _ _ r h => by simp [slices_Equal_string_string.l0] at h
  | k + 1 => by
    have ih0 := slices_Equal_string_string.mono_l k
    · intro y0 y1 y2 y3
      unfold slices_Equal_string_string.l0
      repeat' first
      | (with_reducible exact ih0 _ _ _ _)
      | (with_reducible exact LeO.refl _)
      | (with_reducible exact LeO.none _)
      | (with_reducible refine LeO.ite ?_ ?_)
      | (with_reducible refine LeO.bind ?_ (fun _ => ?_))
      | exact ih0 _ _ _ _
      | exact LeO.none _
      | refine LeO.ite ?_ ?_
      | refine LeO.bind ?_ (fun _ => ?_)
theorem slices_Equal_string_string.mono : ∀ a0 a1 k, LeO (slices_Equal_string_string.f k a0 a1) (slices_Equal_string_string.f (k + 1) a0 a1) := by
  intro a0 a1 k
  have ih0 := slices_Equal_string_string.mono_l k
  unfold slices_Equal_string_string.f
  repeat' first
      | (with_reducible exact ih0 _ _ _ _)
      | (with_reducible exact LeO.refl _)
      | (with_reducible exact LeO.none _)
      | (with_reducible refine LeO.ite ?_ ?_)
      | (with_reducible refine LeO.bind ?_ (fun _ => ?_))
      | exact ih0 _ _ _ _
      | exact LeO.none _
      | refine LeO.ite ?_ ?_
      | refine LeO.bind ?_ (fun _ => ?_)
set_option maxHeartbeats 8000000 in
set_option maxRecDepth 100000 in
theorem slices_Equal_string_string.calls (k : Nat) (A0 : Option Addr) (c0 : Nat) (l0 : List ByteArray) (A1 : Option Addr) (c1 : Nat) (l1 : List ByteArray) (r : Bool) (w : World) (hr0 : Kd.C Kd.string w A0 l0.length l0) (hc0 : l0.length ≤ c0) (hr1 : Kd.C Kd.string w A1 l1.length l1) (hc1 : l1.length ≤ c1) (h : slices_Equal_string_string.f k l0 l1 = some r) :
    Calls Tryd.prog 42 #[.slice A0 l0.length c0, .slice A1 l1.length c1] w fun e w' => e = .returned (.bool r) ∧ Drawn0 w w' := by
  have HR0 := Aside0.mk hr0
  have HC0 := Aside0.mk hc0
  clear hr0 hc0
  have HR1 := Aside0.mk hr1
  have HC1 := Aside0.mk hc1
  clear hr1 hc1
  have H : (if (l0.length : Int) = (l1.length : Int) then (slices_Equal_string_string.l0 k l0 l1 (l0.length : Int) 0) else (some false)) = some r := h
  clear h
  by_cases c3 : (l0.length : Int) = (l1.length : Int)
  · rw [if_pos c3] at H
    have c3b0 : ((l0.length : Int) == (l1.length : Int)) = true := beq_iff_eq.mpr c3
    have c3b1 : ((l0.length : Int) != (l1.length : Int)) = false := bne_eq_false_iff_eq.mpr c3
    have c3b2 : (l0.length == l1.length) = true := by first | simpa using c3 | (simp at c3 ⊢; omega)
    clear c3
    have H' := Aside0.mk H
    clear H
    go_enter Tryd.func42, Tryd.ntmps42
    go_wp2
    repeat (go_quiet (fail); try go_wp2)
    go_loopg [13] k (fun kq v13 w' => ∃ (x13_1 : Int), v13 = .int .i64 x13_1 ∧ Aside0 (slices_Equal_string_string.l0 kq l0 l1 (l0.length : Int) x13_1 = some r) ∧ Aside0 (kq ≤ k) ∧ Drawn0 w w')
    case atStart => exact ⟨(0), (by first | rfl | (simp; done) | (simp [*]; done)), H', ⟨Nat.le_refl _⟩, by repeat (first | exact Drawn0.refl _ | apply Drawn0.step)⟩
    case round =>
      clear H'
      try clear c1
      try clear p2
      try clear c3
      try clear c3b0
      try clear c3b1
      try clear c3b2
      obtain ⟨x13_1, rfl, HA, HK1, ⟨m1, rfl⟩⟩ := hrel
      cases gk with
      | zero => exact absurd HA.out (by simp [slices_Equal_string_string.l0])
      | succ k1 =>
        have H := HA.out
        clear HA
        simp only [slices_Equal_string_string.l0] at H
        by_cases c4 : x13_1 < (l0.length : Int)
        · rw [if_pos c4] at H
          have c4b0 : decide (x13_1 < (l0.length : Int)) = true := decide_eq_true c4
          clear c4
          by_cases c5 : 0 ≤ x13_1
          · rw [if_pos c5] at H
            have c5b0 : decide (0 ≤ x13_1) = true := decide_eq_true c5
            clear c5
            by_cases c6 : x13_1 < (l0.length : Int)
            · rw [if_pos c6] at H
              have c6b0 : decide (x13_1 < (l0.length : Int)) = true := decide_eq_true c6
              clear c6
              by_cases c7 : x13_1 < (l1.length : Int)
              · rw [if_pos c7] at H
                have c7b0 : decide (x13_1 < (l1.length : Int)) = true := decide_eq_true c7
                clear c7
                by_cases c8 : (rdOf ByteArray.empty l0 x13_1).toList = (rdOf ByteArray.empty l1 x13_1).toList
                · rw [if_pos c8] at H
                  have c8b0 : ((rdOf ByteArray.empty l0 x13_1).toList == (rdOf ByteArray.empty l1 x13_1).toList) = true := beq_iff_eq.mpr c8
                  have c8b1 : ((rdOf ByteArray.empty l0 x13_1).toList != (rdOf ByteArray.empty l1 x13_1).toList) = false := bne_eq_false_iff_eq.mpr c8
                  clear c8
                  have H' := Aside0.mk H
                  clear H
                  have p185 : 0 ≤ (x13_1 : Int) := of_decide_eq_true (by first | (with_reducible assumption) | assumption)
                  have q185 : x13_1 < (l0.length : Int) := of_decide_eq_true (by first | (with_reducible assumption) | assumption)
                  obtain ⟨ad185, e185, hx185_0⟩ := Kd.at_string HR0.out x13_1 p185 q185
                  cases e185
                  replace p185 := eq_true p185
                  replace q185 := eq_true q185
                  have p186 : 0 ≤ (x13_1 : Int) := of_decide_eq_true (by first | (with_reducible assumption) | assumption)
                  have q186 : x13_1 < (l1.length : Int) := of_decide_eq_true (by first | (with_reducible assumption) | assumption)
                  obtain ⟨ad186, e186, hx186_0⟩ := Kd.at_string HR1.out x13_1 p186 q186
                  cases e186
                  replace p186 := eq_true p186
                  replace q186 := eq_true q186
                  go_wp2
                  repeat (go_quiet (fail); try go_wp2)
                  go_roundg k1
                  case measure => have := HK1.out; omega
                  case rel => exact ⟨(wrap64 (x13_1 + 1)), (by first | rfl | (simp; done) | (simp [*]; done)), H', ⟨by have := HK1.out; omega⟩, by repeat (first | exact Drawn0.refl _ | apply Drawn0.step)⟩
                · rw [if_neg c8] at H
                  have c8b0 : ((rdOf ByteArray.empty l0 x13_1).toList == (rdOf ByteArray.empty l1 x13_1).toList) = false := beq_eq_false_iff_ne.mpr c8
                  have c8b1 : ((rdOf ByteArray.empty l0 x13_1).toList != (rdOf ByteArray.empty l1 x13_1).toList) = true := bne_iff_ne.mpr c8
                  obtain rfl := Option.some.inj H
                  have p185 : 0 ≤ (x13_1 : Int) := of_decide_eq_true (by first | (with_reducible assumption) | assumption)
                  have q185 : x13_1 < (l0.length : Int) := of_decide_eq_true (by first | (with_reducible assumption) | assumption)
                  obtain ⟨ad185, e185, hx185_0⟩ := Kd.at_string HR0.out x13_1 p185 q185
                  cases e185
                  replace p185 := eq_true p185
                  replace q185 := eq_true q185
                  have p186 : 0 ≤ (x13_1 : Int) := of_decide_eq_true (by first | (with_reducible assumption) | assumption)
                  have q186 : x13_1 < (l1.length : Int) := of_decide_eq_true (by first | (with_reducible assumption) | assumption)
                  obtain ⟨ad186, e186, hx186_0⟩ := Kd.at_string HR1.out x13_1 p186 q186
                  cases e186
                  replace p186 := eq_true p186
                  replace q186 := eq_true q186
                  go_wp2
                  repeat (go_quiet (fail); try go_wp2)
                  go_ret
                  exact ⟨by first | rfl | (simp; done) | (simp [*]; done), by repeat (first | exact Drawn0.refl _ | apply Drawn0.step)⟩
              · rw [if_neg c7] at H
                exact absurd H (by simp)
            · rw [if_neg c6] at H
              exact absurd H (by simp)
          · rw [if_neg c5] at H
            exact absurd H (by simp)
        · rw [if_neg c4] at H
          have c4b0 : decide (x13_1 < (l0.length : Int)) = false := decide_eq_false c4
          clear c4
          obtain rfl := Option.some.inj H
          go_wp2
          repeat (go_quiet (fail); try go_wp2)
          go_ret
          exact ⟨by first | rfl | (simp; done) | (simp [*]; done), by repeat (first | exact Drawn0.refl _ | apply Drawn0.step)⟩
  · rw [if_neg c3] at H
    have c3b0 : ((l0.length : Int) == (l1.length : Int)) = false := beq_eq_false_iff_ne.mpr c3
    have c3b1 : ((l0.length : Int) != (l1.length : Int)) = true := bne_iff_ne.mpr c3
    have c3b2 : (l0.length == l1.length) = false := by first | simpa using c3 | (simp at c3 ⊢; omega)
    obtain rfl := Option.some.inj H
    go_enter Tryd.func42, Tryd.ntmps42
    go_wp2
    repeat (go_quiet (fail); try go_wp2)
    go_ret
    exact ⟨by first | rfl | (simp; done) | (simp [*]; done), by repeat (first | exact Drawn0.refl _ | apply Drawn0.step)⟩

/-! ### labels_Requirement_Equal: function 26 -/
def labels_Requirement_Equal.f (k : Nat) (a0_0 : ByteArray) (a0_1 : ByteArray) (l0_2 : List ByteArray) (a1_0 : ByteArray) (a1_1 : ByteArray) (l1_2 : List ByteArray) : Option (Bool) := if a0_0.toList = a1_0.toList then (if a0_1.toList = a1_1.toList then ((slices_Equal_string_string.f k l0_2 l1_2).bind fun t189 => (some t189)) else (some false)) else (some false)
theorem labels_Requirement_Equal.mono : ∀ a0 a1 a2 a3 a4 a5 k, LeO (labels_Requirement_Equal.f k a0 a1 a2 a3 a4 a5) (labels_Requirement_Equal.f (k + 1) a0 a1 a2 a3 a4 a5) := by
  intro a0 a1 a2 a3 a4 a5 k
  unfold labels_Requirement_Equal.f
  repeat' first
      | (with_reducible exact slices_Equal_string_string.mono _ _ _)
      | (with_reducible exact LeO.refl _)
      | (with_reducible exact LeO.none _)
      | (with_reducible refine LeO.ite ?_ ?_)
      | (with_reducible refine LeO.bind ?_ (fun _ => ?_))
      | exact slices_Equal_string_string.mono _ _ _
      | exact LeO.none _
      | refine LeO.ite ?_ ?_
      | refine LeO.bind ?_ (fun _ => ?_)
set_option maxHeartbeats 8000000 in
set_option maxRecDepth 100000 in
theorem labels_Requirement_Equal.calls (k : Nat) (a0_0 : ByteArray) (a0_1 : ByteArray) (A0_2 : Option Addr) (c0_2 : Nat) (l0_2 : List ByteArray) (a1_0 : ByteArray) (a1_1 : ByteArray) (A1_2 : Option Addr) (c1_2 : Nat) (l1_2 : List ByteArray) (r : Bool) (w : World) (hr0_2 : Kd.C Kd.string w A0_2 l0_2.length l0_2) (hc0_2 : l0_2.length ≤ c0_2) (hr1_2 : Kd.C Kd.string w A1_2 l1_2.length l1_2) (hc1_2 : l1_2.length ≤ c1_2) (h : labels_Requirement_Equal.f k a0_0 a0_1 l0_2 a1_0 a1_1 l1_2 = some r) :
    Calls Tryd.prog 26 #[.agg #[.string a0_0, .string a0_1, .slice A0_2 l0_2.length c0_2], .agg #[.string a1_0, .string a1_1, .slice A1_2 l1_2.length c1_2]] w fun e w' => e = .returned (.bool r) ∧ Below w.heap.size w w' := by
  have hu54 := Tryd.underlying54
  have HR0_2 := Aside0.mk hr0_2
  have HC0_2 := Aside0.mk hc0_2
  clear hr0_2 hc0_2
  have HR1_2 := Aside0.mk hr1_2
  have HC1_2 := Aside0.mk hc1_2
  clear hr1_2 hc1_2
  have HB := Aside0.mk (Below.refl w.heap.size w)
  have H : (if a0_0.toList = a1_0.toList then (if a0_1.toList = a1_1.toList then ((slices_Equal_string_string.f k l0_2 l1_2).bind fun t189 => (some t189)) else (some false)) else (some false)) = some r := h
  clear h
  by_cases c3 : a0_0.toList = a1_0.toList
  · rw [if_pos c3] at H
    have c3b0 : (a0_0.toList == a1_0.toList) = true := beq_iff_eq.mpr c3
    have c3b1 : (a0_0.toList != a1_0.toList) = false := bne_eq_false_iff_eq.mpr c3
    clear c3
    by_cases c4 : a0_1.toList = a1_1.toList
    · rw [if_pos c4] at H
      have c4b0 : (a0_1.toList == a1_1.toList) = true := beq_iff_eq.mpr c4
      have c4b1 : (a0_1.toList != a1_1.toList) = false := bne_eq_false_iff_eq.mpr c4
      clear c4
      replace H := Option.bind_eq_some_iff.mp H
      obtain ⟨t189, A50, H⟩ := H
      replace H : (some t189) = some r := H
      have A5 := Aside0.mk A50
      clear A50
      obtain rfl := Option.some.inj H
      go_enter Tryd.func26, Tryd.ntmps26
      go_wp2_with (first | ((with_reducible refine gate_dst (N := 2) rfl ?_); refine box_event ?hg (N := 2) ?hd (cs := #[.string a0_0, .string a0_1, .slice A0_2 l0_2.length c0_2]) (t := 54) ?hr ?_; (case hd => rfl); (case hg => rfl); (case hr => first | (go_simp; done) | (go_simp; rfl)); intro gb187 hg w6 hbox hb; have n0_ := Aside0.mk (below_step (by repeat (first | (with_reducible first | exact HB.out | apply below_alloc | apply pw_below_drewN | apply below_drew1) | exact HB.out)) hb); have n1_ := Aside0.mk (hbox); have n2_ := Aside0.mk ((by rw [hg]; exact (below_size (by repeat (first | (with_reducible first | exact HB.out | apply below_alloc | apply pw_below_drewN | apply below_drew1) | exact HB.out))) : w.heap.size ≤ gb187)); have n3_ := Aside0.mk ((by rw [hg]; exact (below_size (by repeat (first | (with_reducible first | exact HB.out | apply below_alloc | apply pw_below_drewN | apply below_drew1) | exact HB.out))) : w.heap.size ≤ gb187)); clear HB; have HB := n0_; have BK187 := n1_; have GW187 := n2_; have GE187 := n3_; clear n0_ n1_ n2_ n3_; clear hb hbox hg) | ((with_reducible refine gate_dst (N := 3) rfl ?_); refine box_event ?hg (N := 3) ?hd (cs := #[.string a1_0, .string a1_1, .slice A1_2 l1_2.length c1_2]) (t := 54) ?hr ?_; (case hd => rfl); (case hg => rfl); (case hr => first | (go_simp; done) | (go_simp; rfl)); intro gb188 hg w7 hbox hb; have n0_ := Aside0.mk (blk_below (g := gb187) (o := .cells #[.string a0_0, .string a0_1, .slice A0_2 l0_2.length c0_2] 54 (0, 0)) (by (with_reducible repeat (first | refine blk_drewN ?_ _ | refine blk_drew ?_ | refine blk_alloc ?_ _)); exact BK187.out) hb); have n1_ := Aside0.mk (below_step (by repeat (first | (with_reducible first | exact HB.out | apply below_alloc | apply pw_below_drewN | apply below_drew1 | refine below_set ?_ GE187.out) | exact HB.out)) hb); have n2_ := Aside0.mk (hbox); have n3_ := Aside0.mk ((by rw [hg]; exact (below_size (by repeat (first | (with_reducible first | exact HB.out | apply below_alloc | apply pw_below_drewN | apply below_drew1 | refine below_set ?_ GE187.out) | exact HB.out))) : w.heap.size ≤ gb188)); have n4_ := Aside0.mk ((by rw [hg]; exact (below_size (by repeat (first | (with_reducible first | exact HB.out | apply below_alloc | apply pw_below_drewN | apply below_drew1 | refine below_set ?_ GE187.out) | exact HB.out))) : w.heap.size ≤ gb188)); have n5_ := Aside0.mk ((by rw [hg]; exact Nat.ne_of_lt (blk_lt (g := gb187) (o := .cells #[.string a0_0, .string a0_1, .slice A0_2 l0_2.length c0_2] 54 (0, 0)) (by (with_reducible repeat (first | refine blk_drewN ?_ _ | refine blk_drew ?_ | refine blk_alloc ?_ _)); exact BK187.out)) : gb187 ≠ gb188)); have n6_ := Aside0.mk ((by rw [hg]; exact Nat.ne_of_gt (blk_lt (g := gb187) (o := .cells #[.string a0_0, .string a0_1, .slice A0_2 l0_2.length c0_2] 54 (0, 0)) (by (with_reducible repeat (first | refine blk_drewN ?_ _ | refine blk_drew ?_ | refine blk_alloc ?_ _)); exact BK187.out)) : gb188 ≠ gb187)); clear BK187; clear HB; have BK187 := n0_; have HB := n1_; have BK188 := n2_; have GW188 := n3_; have GE188 := n4_; have NB187_188 := n5_; have NB188_187 := n6_; clear n0_ n1_ n2_ n3_ n4_ n5_ n6_; clear hb hbox hg; have hnb8 := NB187_188.out; have hnc8 := NB188_187.out; have hcz9_0 : w7.cell? ⟨gb187, 0, none⟩ = some (.string a0_0) := (blk_cell BK187.out 0).trans rfl; have hcz9_1 : w7.cell? ⟨gb187, 1, none⟩ = some (.string a0_1) := (blk_cell BK187.out 1).trans rfl; have hcz9_2 : w7.cell? ⟨gb187, 2, none⟩ = some (.slice A0_2 l0_2.length c0_2) := (blk_cell BK187.out 2).trans rfl; have hfz9_0 := blk_frozen BK187.out 0; have hfz9_1 := blk_frozen BK187.out 1; have hfz9_2 := blk_frozen BK187.out 2; have hcz10_0 : w7.cell? ⟨gb188, 0, none⟩ = some (.string a1_0) := (blk_cell BK188.out 0).trans rfl; have hcz10_1 : w7.cell? ⟨gb188, 1, none⟩ = some (.string a1_1) := (blk_cell BK188.out 1).trans rfl; have hcz10_2 : w7.cell? ⟨gb188, 2, none⟩ = some (.slice A1_2 l1_2.length c1_2) := (blk_cell BK188.out 2).trans rfl; have hfz10_0 := blk_frozen BK188.out 0; have hfz10_1 := blk_frozen BK188.out 1; have hfz10_2 := blk_frozen BK188.out 2) | ((with_reducible refine gate_callee (f := 42) rfl ?_); refine goesL_ (some 19) rfl rfl Tryd.func42 (by kernel_rfl) rfl #[.slice A0_2 l0_2.length c0_2, .slice A1_2 l1_2.length c1_2] rfl (by (try simp only [List.map_toArray, List.map_cons, List.map_nil]); first | done | rfl | (simp only [List.length_drop, List.length_take]; rfl)) ?_; (with_reducible refine (slices_Equal_string_string.calls k _ _ l0_2 _ _ l1_2 t189 _ ?side1 ?side2 ?side3 ?side4 A5.out).mono ?_); (case side1 => repeat (first | exact (Kd.C_below HR0_2.out HB.out) | (with_reducible refine Kd.C_alloc ?_ _) | (with_reducible refine Kd.C_drewN ?_ _) | (with_reducible refine Kd.C_drew ?_))); (case side2 => exact HC0_2.out); (case side3 => repeat (first | exact (Kd.C_below HR1_2.out HB.out) | (with_reducible refine Kd.C_alloc ?_ _) | (with_reducible refine Kd.C_drewN ?_ _) | (with_reducible refine Kd.C_drew ?_))); (case side4 => exact HC1_2.out); rintro e w' ⟨rfl, ⟨nd, rfl⟩⟩; refine ⟨_, rfl, ?_⟩))
      go_ret
      exact ⟨by first | rfl | (simp [errW_none, errW_some] <;> rfl) | (simp [*, errW_none, errW_some] <;> rfl) | (exfalso; contradiction), by repeat (first | (with_reducible first | exact HB.out | apply below_alloc | apply pw_below_drewN | apply below_drew1 | refine below_set ?_ GE187.out | refine below_set ?_ GE188.out) | exact HB.out)⟩
    · rw [if_neg c4] at H
      have c4b0 : (a0_1.toList == a1_1.toList) = false := beq_eq_false_iff_ne.mpr c4
      have c4b1 : (a0_1.toList != a1_1.toList) = true := bne_iff_ne.mpr c4
      obtain rfl := Option.some.inj H
      go_enter Tryd.func26, Tryd.ntmps26
      go_wp2_with (first | ((with_reducible refine gate_dst (N := 2) rfl ?_); refine box_event ?hg (N := 2) ?hd (cs := #[.string a0_0, .string a0_1, .slice A0_2 l0_2.length c0_2]) (t := 54) ?hr ?_; (case hd => rfl); (case hg => rfl); (case hr => first | (go_simp; done) | (go_simp; rfl)); intro gb187 hg w11 hbox hb; have n0_ := Aside0.mk (below_step (by repeat (first | (with_reducible first | exact HB.out | apply below_alloc | apply pw_below_drewN | apply below_drew1) | exact HB.out)) hb); have n1_ := Aside0.mk (hbox); have n2_ := Aside0.mk ((by rw [hg]; exact (below_size (by repeat (first | (with_reducible first | exact HB.out | apply below_alloc | apply pw_below_drewN | apply below_drew1) | exact HB.out))) : w.heap.size ≤ gb187)); have n3_ := Aside0.mk ((by rw [hg]; exact (below_size (by repeat (first | (with_reducible first | exact HB.out | apply below_alloc | apply pw_below_drewN | apply below_drew1) | exact HB.out))) : w.heap.size ≤ gb187)); clear HB; have HB := n0_; have BK187 := n1_; have GW187 := n2_; have GE187 := n3_; clear n0_ n1_ n2_ n3_; clear hb hbox hg) | ((with_reducible refine gate_dst (N := 3) rfl ?_); refine box_event ?hg (N := 3) ?hd (cs := #[.string a1_0, .string a1_1, .slice A1_2 l1_2.length c1_2]) (t := 54) ?hr ?_; (case hd => rfl); (case hg => rfl); (case hr => first | (go_simp; done) | (go_simp; rfl)); intro gb188 hg w12 hbox hb; have n0_ := Aside0.mk (blk_below (g := gb187) (o := .cells #[.string a0_0, .string a0_1, .slice A0_2 l0_2.length c0_2] 54 (0, 0)) (by (with_reducible repeat (first | refine blk_drewN ?_ _ | refine blk_drew ?_ | refine blk_alloc ?_ _)); exact BK187.out) hb); have n1_ := Aside0.mk (below_step (by repeat (first | (with_reducible first | exact HB.out | apply below_alloc | apply pw_below_drewN | apply below_drew1 | refine below_set ?_ GE187.out) | exact HB.out)) hb); have n2_ := Aside0.mk (hbox); have n3_ := Aside0.mk ((by rw [hg]; exact (below_size (by repeat (first | (with_reducible first | exact HB.out | apply below_alloc | apply pw_below_drewN | apply below_drew1 | refine below_set ?_ GE187.out) | exact HB.out))) : w.heap.size ≤ gb188)); have n4_ := Aside0.mk ((by rw [hg]; exact (below_size (by repeat (first | (with_reducible first | exact HB.out | apply below_alloc | apply pw_below_drewN | apply below_drew1 | refine below_set ?_ GE187.out) | exact HB.out))) : w.heap.size ≤ gb188)); have n5_ := Aside0.mk ((by rw [hg]; exact Nat.ne_of_lt (blk_lt (g := gb187) (o := .cells #[.string a0_0, .string a0_1, .slice A0_2 l0_2.length c0_2] 54 (0, 0)) (by (with_reducible repeat (first | refine blk_drewN ?_ _ | refine blk_drew ?_ | refine blk_alloc ?_ _)); exact BK187.out)) : gb187 ≠ gb188)); have n6_ := Aside0.mk ((by rw [hg]; exact Nat.ne_of_gt (blk_lt (g := gb187) (o := .cells #[.string a0_0, .string a0_1, .slice A0_2 l0_2.length c0_2] 54 (0, 0)) (by (with_reducible repeat (first | refine blk_drewN ?_ _ | refine blk_drew ?_ | refine blk_alloc ?_ _)); exact BK187.out)) : gb188 ≠ gb187)); clear BK187; clear HB; have BK187 := n0_; have HB := n1_; have BK188 := n2_; have GW188 := n3_; have GE188 := n4_; have NB187_188 := n5_; have NB188_187 := n6_; clear n0_ n1_ n2_ n3_ n4_ n5_ n6_; clear hb hbox hg; have hnb13 := NB187_188.out; have hnc13 := NB188_187.out; have hcz14_0 : w12.cell? ⟨gb187, 0, none⟩ = some (.string a0_0) := (blk_cell BK187.out 0).trans rfl; have hcz14_1 : w12.cell? ⟨gb187, 1, none⟩ = some (.string a0_1) := (blk_cell BK187.out 1).trans rfl; have hcz14_2 : w12.cell? ⟨gb187, 2, none⟩ = some (.slice A0_2 l0_2.length c0_2) := (blk_cell BK187.out 2).trans rfl; have hfz14_0 := blk_frozen BK187.out 0; have hfz14_1 := blk_frozen BK187.out 1; have hfz14_2 := blk_frozen BK187.out 2; have hcz15_0 : w12.cell? ⟨gb188, 0, none⟩ = some (.string a1_0) := (blk_cell BK188.out 0).trans rfl; have hcz15_1 : w12.cell? ⟨gb188, 1, none⟩ = some (.string a1_1) := (blk_cell BK188.out 1).trans rfl; have hcz15_2 : w12.cell? ⟨gb188, 2, none⟩ = some (.slice A1_2 l1_2.length c1_2) := (blk_cell BK188.out 2).trans rfl; have hfz15_0 := blk_frozen BK188.out 0; have hfz15_1 := blk_frozen BK188.out 1; have hfz15_2 := blk_frozen BK188.out 2))
      go_ret
      exact ⟨by first | rfl | (simp [errW_none, errW_some] <;> rfl) | (simp [*, errW_none, errW_some] <;> rfl) | (exfalso; contradiction), by repeat (first | (with_reducible first | exact HB.out | apply below_alloc | apply pw_below_drewN | apply below_drew1 | refine below_set ?_ GE187.out | refine below_set ?_ GE188.out) | exact HB.out)⟩
  · rw [if_neg c3] at H
    have c3b0 : (a0_0.toList == a1_0.toList) = false := beq_eq_false_iff_ne.mpr c3
    have c3b1 : (a0_0.toList != a1_0.toList) = true := bne_iff_ne.mpr c3
    obtain rfl := Option.some.inj H
    go_enter Tryd.func26, Tryd.ntmps26
    go_wp2_with (first | ((with_reducible refine gate_dst (N := 2) rfl ?_); refine box_event ?hg (N := 2) ?hd (cs := #[.string a0_0, .string a0_1, .slice A0_2 l0_2.length c0_2]) (t := 54) ?hr ?_; (case hd => rfl); (case hg => rfl); (case hr => first | (go_simp; done) | (go_simp; rfl)); intro gb187 hg w16 hbox hb; have n0_ := Aside0.mk (below_step (by repeat (first | (with_reducible first | exact HB.out | apply below_alloc | apply pw_below_drewN | apply below_drew1) | exact HB.out)) hb); have n1_ := Aside0.mk (hbox); have n2_ := Aside0.mk ((by rw [hg]; exact (below_size (by repeat (first | (with_reducible first | exact HB.out | apply below_alloc | apply pw_below_drewN | apply below_drew1) | exact HB.out))) : w.heap.size ≤ gb187)); have n3_ := Aside0.mk ((by rw [hg]; exact (below_size (by repeat (first | (with_reducible first | exact HB.out | apply below_alloc | apply pw_below_drewN | apply below_drew1) | exact HB.out))) : w.heap.size ≤ gb187)); clear HB; have HB := n0_; have BK187 := n1_; have GW187 := n2_; have GE187 := n3_; clear n0_ n1_ n2_ n3_; clear hb hbox hg) | ((with_reducible refine gate_dst (N := 3) rfl ?_); refine box_event ?hg (N := 3) ?hd (cs := #[.string a1_0, .string a1_1, .slice A1_2 l1_2.length c1_2]) (t := 54) ?hr ?_; (case hd => rfl); (case hg => rfl); (case hr => first | (go_simp; done) | (go_simp; rfl)); intro gb188 hg w17 hbox hb; have n0_ := Aside0.mk (blk_below (g := gb187) (o := .cells #[.string a0_0, .string a0_1, .slice A0_2 l0_2.length c0_2] 54 (0, 0)) (by (with_reducible repeat (first | refine blk_drewN ?_ _ | refine blk_drew ?_ | refine blk_alloc ?_ _)); exact BK187.out) hb); have n1_ := Aside0.mk (below_step (by repeat (first | (with_reducible first | exact HB.out | apply below_alloc | apply pw_below_drewN | apply below_drew1 | refine below_set ?_ GE187.out) | exact HB.out)) hb); have n2_ := Aside0.mk (hbox); have n3_ := Aside0.mk ((by rw [hg]; exact (below_size (by repeat (first | (with_reducible first | exact HB.out | apply below_alloc | apply pw_below_drewN | apply below_drew1 | refine below_set ?_ GE187.out) | exact HB.out))) : w.heap.size ≤ gb188)); have n4_ := Aside0.mk ((by rw [hg]; exact (below_size (by repeat (first | (with_reducible first | exact HB.out | apply below_alloc | apply pw_below_drewN | apply below_drew1 | refine below_set ?_ GE187.out) | exact HB.out))) : w.heap.size ≤ gb188)); have n5_ := Aside0.mk ((by rw [hg]; exact Nat.ne_of_lt (blk_lt (g := gb187) (o := .cells #[.string a0_0, .string a0_1, .slice A0_2 l0_2.length c0_2] 54 (0, 0)) (by (with_reducible repeat (first | refine blk_drewN ?_ _ | refine blk_drew ?_ | refine blk_alloc ?_ _)); exact BK187.out)) : gb187 ≠ gb188)); have n6_ := Aside0.mk ((by rw [hg]; exact Nat.ne_of_gt (blk_lt (g := gb187) (o := .cells #[.string a0_0, .string a0_1, .slice A0_2 l0_2.length c0_2] 54 (0, 0)) (by (with_reducible repeat (first | refine blk_drewN ?_ _ | refine blk_drew ?_ | refine blk_alloc ?_ _)); exact BK187.out)) : gb188 ≠ gb187)); clear BK187; clear HB; have BK187 := n0_; have HB := n1_; have BK188 := n2_; have GW188 := n3_; have GE188 := n4_; have NB187_188 := n5_; have NB188_187 := n6_; clear n0_ n1_ n2_ n3_ n4_ n5_ n6_; clear hb hbox hg; have hnb18 := NB187_188.out; have hnc18 := NB188_187.out; have hcz19_0 : w17.cell? ⟨gb187, 0, none⟩ = some (.string a0_0) := (blk_cell BK187.out 0).trans rfl; have hcz19_1 : w17.cell? ⟨gb187, 1, none⟩ = some (.string a0_1) := (blk_cell BK187.out 1).trans rfl; have hcz19_2 : w17.cell? ⟨gb187, 2, none⟩ = some (.slice A0_2 l0_2.length c0_2) := (blk_cell BK187.out 2).trans rfl; have hfz19_0 := blk_frozen BK187.out 0; have hfz19_1 := blk_frozen BK187.out 1; have hfz19_2 := blk_frozen BK187.out 2; have hcz20_0 : w17.cell? ⟨gb188, 0, none⟩ = some (.string a1_0) := (blk_cell BK188.out 0).trans rfl; have hcz20_1 : w17.cell? ⟨gb188, 1, none⟩ = some (.string a1_1) := (blk_cell BK188.out 1).trans rfl; have hcz20_2 : w17.cell? ⟨gb188, 2, none⟩ = some (.slice A1_2 l1_2.length c1_2) := (blk_cell BK188.out 2).trans rfl; have hfz20_0 := blk_frozen BK188.out 0; have hfz20_1 := blk_frozen BK188.out 1; have hfz20_2 := blk_frozen BK188.out 2))
    go_ret
    exact ⟨by first | rfl | (simp [errW_none, errW_some] <;> rfl) | (simp [*, errW_none, errW_some] <;> rfl) | (exfalso; contradiction), by repeat (first | (with_reducible first | exact HB.out | apply below_alloc | apply pw_below_drewN | apply below_drew1 | refine below_set ?_ GE187.out | refine below_set ?_ GE188.out) | exact HB.out)⟩

/-! ### impl_NeedEqual: function 9 -/
def impl_NeedEqual.f (k : Nat) (a0_0 : ByteArray) (a0_1 : ByteArray) (l0_2 : List ByteArray) (a1_0 : ByteArray) (a1_1 : ByteArray) (l1_2 : List ByteArray) : Option (Bool × Bool) :=
  if needOkB a0_1 l0_2 = true ∧ needOkB a1_1 l1_2 = true ∧ l0_2.length ≤ 4294967296 ∧ l1_2.length ≤ 4294967296 then (labels_Requirement_Equal.f k a0_0 a0_1 l0_2 a1_0 a1_1 l1_2).bind fun b => some (b, false) else none
theorem impl_NeedEqual.mono : ∀ a0 a1 a2 a3 a4 a5 k, LeO (impl_NeedEqual.f k a0 a1 a2 a3 a4 a5) (impl_NeedEqual.f (k + 1) a0 a1 a2 a3 a4 a5) := by
  intro a0 a1 a2 a3 a4 a5 k
  unfold impl_NeedEqual.f
  exact LeO.ite (LeO.bind (labels_Requirement_Equal.mono _ _ _ _ _ _ _) (fun _ => LeO.refl _)) (LeO.none _)
set_option maxRecDepth 100000 in
set_option maxHeartbeats 4000000 in
theorem impl_NeedEqual.calls (k : Nat) (a0_0 : ByteArray) (a0_1 : ByteArray) (A0_2 : Option Addr) (c0_2 : Nat) (l0_2 : List ByteArray) (a1_0 : ByteArray) (a1_1 : ByteArray) (A1_2 : Option Addr) (c1_2 : Nat) (l1_2 : List ByteArray) (r0 : Bool) (r1 : Bool) (w : World) (hr0_2 : Kd.C Kd.string w A0_2 l0_2.length l0_2) (hc0_2 : l0_2.length ≤ c0_2) (hr1_2 : Kd.C Kd.string w A1_2 l1_2.length l1_2) (hc1_2 : l1_2.length ≤ c1_2) (h : impl_NeedEqual.f k a0_0 a0_1 l0_2 a1_0 a1_1 l1_2 = some (r0, r1)) :
    Calls Tryd.prog 9 #[.agg #[.string a0_0, .string a0_1, .slice A0_2 l0_2.length c0_2], .agg #[.string a1_0, .string a1_1, .slice A1_2 l1_2.length c1_2]] w fun e w' => e = .returned (.tuple #[.bool r0, .bool r1]) ∧ Below w.heap.size w w' := by
  unfold impl_NeedEqual.f at h
  by_cases hg : needOkB a0_1 l0_2 = true ∧ needOkB a1_1 l1_2 = true ∧ l0_2.length ≤ 4294967296 ∧ l1_2.length ≤ 4294967296
  rotate_left
  · rw [if_neg hg] at h; cases h
  rw [if_pos hg] at h
  obtain ⟨b, hb, hr⟩ := Option.bind_eq_some_iff.1 h
  obtain rfl : b = r0 := congrArg Prod.fst (Option.some.inj hr)
  obtain rfl : false = r1 := congrArg Prod.snd (Option.some.inj hr)
  have mixed : Tryd.prog.follows .mixedOrders = true := by kernel_rfl
  have hu1 := Tryd.underlying24
  have hu2 := Tryd.underlying54
  have HE := Aside0.mk (fun (A B : Option Addr) (c d : Nat) (w1 : World) (x1 : Kd.C Kd.string w1 A l0_2.length l0_2) (x2 : l0_2.length ≤ c) (x3 : Kd.C Kd.string w1 B l1_2.length l1_2) (x4 : l1_2.length ≤ d) => labels_Requirement_Equal.calls k a0_0 a0_1 A c l0_2 a1_0 a1_1 B d l1_2 b w1 x1 x2 x3 x4 hb)
  have HM := Aside0.mk (fun (w1 : World) (x : Below w.heap.size w w1) => made_ok a0_0 a0_1 A0_2 c0_2 l0_2 w1 (Kd.C_below hr0_2 x) hc0_2 hg.2.2.1 (needOk_of hg.1))
  have HM2 := Aside0.mk (fun (w1 : World) (x : Below w.heap.size w w1) => made_ok a1_0 a1_1 A1_2 c1_2 l1_2 w1 (Kd.C_below hr1_2 x) hc1_2 hg.2.2.2 (needOk_of hg.2.1))
  clear h hg hb hr hr0_2 hc0_2 hr1_2 hc1_2
  have B0 : Aside0 (Below w.heap.size w ((w.alloc (.cells #[.string a0_0, .string a0_1, .slice A0_2 l0_2.length c0_2] 24)).alloc (.cells #[.string a1_0, .string a1_1, .slice A1_2 l1_2.length c1_2] 24))) := ⟨below_alloc (below_alloc (Below.refl _ _) _) _⟩
  have K1 : Aside0 (((w.alloc (.cells #[.string a0_0, .string a0_1, .slice A0_2 l0_2.length c0_2] 24)).alloc (.cells #[.string a1_0, .string a1_1, .slice A1_2 l1_2.length c1_2] 24)).heap[w.heap.size + 1]? = some (.cells #[.string a1_0, .string a1_1, .slice A1_2 l1_2.length c1_2] 24 (0, 0))) := ⟨by simpa using blk_new (w.alloc (.cells #[.string a0_0, .string a0_1, .slice A0_2 l0_2.length c0_2] 24)) (.cells #[.string a1_0, .string a1_1, .slice A1_2 l1_2.length c1_2] 24)⟩
  go_enter Tryd.func9, Tryd.ntmps9
  go_wp2_with fail
  refine (HM.out _ B0.out).mono ?_
  rintro e w1 ⟨N, A', c', rfl, hN, hk, hc, hC, hb⟩
  have B1 := Aside0.mk (below_step B0.out hb)
  have k1 := blk_below K1.out hb
  have HK := Aside0.mk hk
  have HC := Aside0.mk hC
  have HCC := Aside0.mk hc
  have hNlt : Aside0 (N < w1.heap.size) := ⟨blk_lt hk⟩
  clear hk hc hC hN hb K1 B0 HM
  have b0 : w1.cell? ⟨w.heap.size + 1, 0, none⟩ = some (.string a1_0) := blk_cell k1 0
  have b1 : w1.cell? ⟨w.heap.size + 1, 1, none⟩ = some (.string a1_1) := blk_cell k1 1
  have b2 : w1.cell? ⟨w.heap.size + 1, 2, none⟩ = some (.slice A1_2 l1_2.length c1_2) := blk_cell k1 2
  clear k1
  go_wp2_with fail
  refine (HM2.out _ B1.out).mono ?_
  rintro e w2 ⟨N2, A2, c2, rfl, hN, hk, hc, hC, hb⟩
  have B2 := Aside0.mk (below_step B1.out hb)
  have HK1 := Aside0.mk (blk_below HK.out hb)
  have HC1 := Aside0.mk (Kd.C_below HC.out hb)
  have HK2 := Aside0.mk hk
  have HC2 := Aside0.mk hC
  have HCC2 := Aside0.mk hc
  clear hk hc hC hN hb b0 b1 b2 HK HC HM2
  go_wp2
  have x0 := blk_cell (blk_drew HK1.out) 0
  have x1 := blk_cell (blk_drew HK1.out) 1
  have x2 := blk_cell (blk_drew HK1.out) 2
  have y0 := blk_cell (blk_drew HK2.out) 0
  have y1 := blk_cell (blk_drew HK2.out) 1
  have y2 := blk_cell (blk_drew HK2.out) 2
  go_region_held3 (fun w' => w'.cell? ⟨N, 0, none⟩ = some (.string a0_0) ∧ w'.cell? ⟨N, 1, none⟩ = some (.string a0_1) ∧ w'.cell? ⟨N, 2, none⟩ = some (.slice A' l0_2.length c') ∧ w'.cell? ⟨N2, 0, none⟩ = some (.string a1_0) ∧ w'.cell? ⟨N2, 1, none⟩ = some (.string a1_1) ∧ w'.cell? ⟨N2, 2, none⟩ = some (.slice A2 l1_2.length c2)) (first | exact ⟨x0, x1, x2, y0, y1, y2⟩ | exact ⟨z0, z1, z2, u0, u1, u2⟩)
    (first
      | (go_at_call 26; refine (HE.out A' A2 c' c2 _ (Kd.C_drew HC1.out) HCC.out (Kd.C_drew HC2.out) HCC2.out).mono ?_; rintro e w3 ⟨rfl, hb⟩; have HB3 := Aside0.mk (below_step (below_drew1 B2.out) hb); have kk1 := blk_below (blk_drew HK1.out) hb; have kk2 := blk_below (blk_drew HK2.out) hb; have z0 := blk_cell kk1 0; have z1 := blk_cell kk1 1; have z2 := blk_cell kk1 2; have u0 := blk_cell kk2 0; have u1 := blk_cell kk2 1; have u2 := blk_cell kk2 2; clear hb kk1 kk2))
  all_goals go_wp2
  all_goals go_ret2
  exact ⟨rfl, HB3.out⟩
/-! ### spec_KeysSame_string: function 27 -/
def spec_KeysSame_string.l0 : Nat → List ByteArray → List ByteArray → Int → Option (Bool)
  | 0, _, _, _ => none
  | k + 1, x0, x1, x5 => if x5 < (x0.length : Int) then (if 0 ≤ x5 then (if x5 < (x1.length : Int) then (if (rdOf ByteArray.empty x0 x5).toList = (rdOf ByteArray.empty x1 x5).toList then (spec_KeysSame_string.l0 k x0 x1 (wrap64 (x5 + 1))) else (some false)) else (none)) else (none)) else (some true)
def spec_KeysSame_string.f (k : Nat) (l0 : List ByteArray) (l1 : List ByteArray) : Option (Bool) := if (l0.length : Int) = (l1.length : Int) then (spec_KeysSame_string.l0 k l0 l1 0) else (some false)
theorem spec_KeysSame_string.mono_l : ∀ k, (∀ y0 y1 y2, LeO (spec_KeysSame_string.l0 k y0 y1 y2) (spec_KeysSame_string.l0 (k + 1) y0 y1 y2))
  | 0 => fun _ _ _ r h => by simp [spec_KeysSame_string.l0] at h
  | k + 1 => by
    have ih0 := spec_KeysSame_string.mono_l k
    · intro y0 y1 y2
      unfold spec_KeysSame_string.l0
      repeat' first
      | (with_reducible exact ih0 _ _ _)
      | (with_reducible exact LeO.refl _)
      | (with_reducible exact LeO.none _)
      | (with_reducible refine LeO.ite ?_ ?_)
      | (with_reducible refine LeO.bind ?_ (fun _ => ?_))
      | exact ih0 _ _ _
      | exact LeO.none _
      | refine LeO.ite ?_ ?_
      | refine LeO.bind ?_ (fun _ => ?_)
theorem spec_KeysSame_string.mono : ∀ a0 a1 k, LeO (spec_KeysSame_string.f k a0 a1) (spec_KeysSame_string.f (k + 1) a0 a1) := by
  intro a0 a1 k
  have ih0 := spec_KeysSame_string.mono_l k
  unfold spec_KeysSame_string.f
  repeat' first
      | (with_reducible exact ih0 _ _ _)
      | (with_reducible exact LeO.refl _)
      | (with_reducible exact LeO.none _)
      | (with_reducible refine LeO.ite ?_ ?_)
      | (with_reducible refine LeO.bind ?_ (fun _ => ?_))
      | exact ih0 _ _ _
      | exact LeO.none _
      | refine LeO.ite ?_ ?_
      | refine LeO.bind ?_ (fun _ => ?_)
set_option maxHeartbeats 8000000 in
set_option maxRecDepth 100000 in
theorem spec_KeysSame_string.calls (k : Nat) (A0 : Option Addr) (c0 : Nat) (l0 : List ByteArray) (A1 : Option Addr) (c1 : Nat) (l1 : List ByteArray) (r : Bool) (w : World) (hr0 : Kd.C Kd.string w A0 l0.length l0) (hc0 : l0.length ≤ c0) (hr1 : Kd.C Kd.string w A1 l1.length l1) (hc1 : l1.length ≤ c1) (h : spec_KeysSame_string.f k l0 l1 = some r) :
    Calls Tryd.prog 27 #[.slice A0 l0.length c0, .slice A1 l1.length c1] w fun e w' => e = .returned (.bool r) ∧ Drawn0 w w' := by
  have HR0 := Aside0.mk hr0
  have HC0 := Aside0.mk hc0
  clear hr0 hc0
  have HR1 := Aside0.mk hr1
  have HC1 := Aside0.mk hc1
  clear hr1 hc1
  have H : (if (l0.length : Int) = (l1.length : Int) then (spec_KeysSame_string.l0 k l0 l1 0) else (some false)) = some r := h
  clear h
  by_cases c3 : (l0.length : Int) = (l1.length : Int)
  · rw [if_pos c3] at H
    have c3b0 : ((l0.length : Int) == (l1.length : Int)) = true := beq_iff_eq.mpr c3
    have c3b1 : ((l0.length : Int) != (l1.length : Int)) = false := bne_eq_false_iff_eq.mpr c3
    have c3b2 : (l0.length == l1.length) = true := by first | simpa using c3 | (simp at c3 ⊢; omega)
    clear c3
    have H' := Aside0.mk H
    clear H
    go_enter Tryd.func27, Tryd.ntmps27
    go_wp2
    repeat (go_quiet (fail); try go_wp2)
    go_loopg [5] k (fun kq v5 w' => ∃ (x5_1 : Int), v5 = .int .i64 x5_1 ∧ Aside0 (spec_KeysSame_string.l0 kq l0 l1 x5_1 = some r) ∧ Aside0 (kq ≤ k) ∧ Drawn0 w w')
    case atStart => exact ⟨(0), (by first | rfl | (simp; done) | (simp [*]; done)), H', ⟨Nat.le_refl _⟩, by repeat (first | exact Drawn0.refl _ | apply Drawn0.step)⟩
    case round =>
      clear H'
      try clear c1
      try clear c2
      try clear p2
      try clear c3
      try clear c3b0
      try clear c3b1
      try clear c3b2
      obtain ⟨x5_1, rfl, HA, HK1, ⟨m1, rfl⟩⟩ := hrel
      cases gk with
      | zero => exact absurd HA.out (by simp [spec_KeysSame_string.l0])
      | succ k1 =>
        have H := HA.out
        clear HA
        simp only [spec_KeysSame_string.l0] at H
        by_cases c4 : x5_1 < (l0.length : Int)
        · rw [if_pos c4] at H
          have c4b0 : decide (x5_1 < (l0.length : Int)) = true := decide_eq_true c4
          clear c4
          by_cases c5 : 0 ≤ x5_1
          · rw [if_pos c5] at H
            have c5b0 : decide (0 ≤ x5_1) = true := decide_eq_true c5
            clear c5
            by_cases c6 : x5_1 < (l1.length : Int)
            · rw [if_pos c6] at H
              have c6b0 : decide (x5_1 < (l1.length : Int)) = true := decide_eq_true c6
              clear c6
              by_cases c7 : (rdOf ByteArray.empty l0 x5_1).toList = (rdOf ByteArray.empty l1 x5_1).toList
              · rw [if_pos c7] at H
                have c7b0 : ((rdOf ByteArray.empty l0 x5_1).toList == (rdOf ByteArray.empty l1 x5_1).toList) = true := beq_iff_eq.mpr c7
                have c7b1 : ((rdOf ByteArray.empty l0 x5_1).toList != (rdOf ByteArray.empty l1 x5_1).toList) = false := bne_eq_false_iff_eq.mpr c7
                clear c7
                have H' := Aside0.mk H
                clear H
                have p190 : 0 ≤ (x5_1 : Int) := of_decide_eq_true (by first | (with_reducible assumption) | assumption)
                have q190 : x5_1 < (l0.length : Int) := of_decide_eq_true (by first | (with_reducible assumption) | assumption)
                obtain ⟨ad190, e190, hx190_0⟩ := Kd.at_string HR0.out x5_1 p190 q190
                cases e190
                replace p190 := eq_true p190
                replace q190 := eq_true q190
                have p191 : 0 ≤ (x5_1 : Int) := of_decide_eq_true (by first | (with_reducible assumption) | assumption)
                have q191 : x5_1 < (l1.length : Int) := of_decide_eq_true (by first | (with_reducible assumption) | assumption)
                obtain ⟨ad191, e191, hx191_0⟩ := Kd.at_string HR1.out x5_1 p191 q191
                cases e191
                replace p191 := eq_true p191
                replace q191 := eq_true q191
                go_wp2
                repeat (go_quiet (fail); try go_wp2)
                go_roundg k1
                case measure => have := HK1.out; omega
                case rel => exact ⟨(wrap64 (x5_1 + 1)), (by first | rfl | (simp; done) | (simp [*]; done)), H', ⟨by have := HK1.out; omega⟩, by repeat (first | exact Drawn0.refl _ | apply Drawn0.step)⟩
              · rw [if_neg c7] at H
                have c7b0 : ((rdOf ByteArray.empty l0 x5_1).toList == (rdOf ByteArray.empty l1 x5_1).toList) = false := beq_eq_false_iff_ne.mpr c7
                have c7b1 : ((rdOf ByteArray.empty l0 x5_1).toList != (rdOf ByteArray.empty l1 x5_1).toList) = true := bne_iff_ne.mpr c7
                obtain rfl := Option.some.inj H
                have p190 : 0 ≤ (x5_1 : Int) := of_decide_eq_true (by first | (with_reducible assumption) | assumption)
                have q190 : x5_1 < (l0.length : Int) := of_decide_eq_true (by first | (with_reducible assumption) | assumption)
                obtain ⟨ad190, e190, hx190_0⟩ := Kd.at_string HR0.out x5_1 p190 q190
                cases e190
                replace p190 := eq_true p190
                replace q190 := eq_true q190
                have p191 : 0 ≤ (x5_1 : Int) := of_decide_eq_true (by first | (with_reducible assumption) | assumption)
                have q191 : x5_1 < (l1.length : Int) := of_decide_eq_true (by first | (with_reducible assumption) | assumption)
                obtain ⟨ad191, e191, hx191_0⟩ := Kd.at_string HR1.out x5_1 p191 q191
                cases e191
                replace p191 := eq_true p191
                replace q191 := eq_true q191
                go_wp2
                repeat (go_quiet (fail); try go_wp2)
                go_ret
                exact ⟨by first | rfl | (simp; done) | (simp [*]; done), by repeat (first | exact Drawn0.refl _ | apply Drawn0.step)⟩
            · rw [if_neg c6] at H
              exact absurd H (by simp)
          · rw [if_neg c5] at H
            exact absurd H (by simp)
        · rw [if_neg c4] at H
          have c4b0 : decide (x5_1 < (l0.length : Int)) = false := decide_eq_false c4
          clear c4
          obtain rfl := Option.some.inj H
          go_wp2
          repeat (go_quiet (fail); try go_wp2)
          go_ret
          exact ⟨by first | rfl | (simp; done) | (simp [*]; done), by repeat (first | exact Drawn0.refl _ | apply Drawn0.step)⟩
  · rw [if_neg c3] at H
    have c3b0 : ((l0.length : Int) == (l1.length : Int)) = false := beq_eq_false_iff_ne.mpr c3
    have c3b1 : ((l0.length : Int) != (l1.length : Int)) = true := bne_iff_ne.mpr c3
    have c3b2 : (l0.length == l1.length) = false := by first | simpa using c3 | (simp at c3 ⊢; omega)
    obtain rfl := Option.some.inj H
    go_enter Tryd.func27, Tryd.ntmps27
    go_wp2
    repeat (go_quiet (fail); try go_wp2)
    go_ret
    exact ⟨by first | rfl | (simp; done) | (simp [*]; done), by repeat (first | exact Drawn0.refl _ | apply Drawn0.step)⟩

end Go.Proofs.YtlhbmifffmegeaaDoor.PFnNeedEqual
