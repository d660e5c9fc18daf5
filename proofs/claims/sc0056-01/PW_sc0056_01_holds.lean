import PyProof.Rows.All
import Wide.All
import OpenK.AllK
import Wide.FinOn
import PyProof.EnumIter
import PyProof.Rows.StrWeight2
import PyProof.StrBlock2
import PyProof.Draws
import PyProof.WalksEnum
import PySem.Challenge.RW_sc0056_01
set_option Elab.async false
set_option linter.all false
set_option maxRecDepth 100000
set_option maxHeartbeats 0
namespace Mine
section
open PySem PySem.W PyProof.Rows
set_option linter.unusedVariables false in
theorem hdc {p p2 q : Prop} (hl : p) (hc : p2) (f : q) : q := by
  clear hl hc
  exact f
theorem said1 : PySem.Challenge.rw_sc0056_01.wellSaid = true := by kernel_rfl
theorem hd (hF : ∀ p : Prop, p) : PySem.Challenge.rw_sc0056_01.Holds := by
  refine holds_law said1 fun said => ?_
  apply hdc
  · apply hF
  · apply hF
  k_head
  (case hw => w_witness2)
noncomputable abbrev as1 : List Addr := [2, 3, 15, 17, 18, 20, 21, 29, 31, 32, 34, 35, 36, 38, 39, 41, 42, 43, 45, 46, 48, 49, 50, 52, 53, 55, 56, 57, 58, 59, 60, 61, 64, 66, 67, 69, 70, 71, 73, 74, 76, 77, 78, 80, 81, 83, 84, 85, 87, 88, 90, 91, 92, 94, 95, 97, 98, 99, 101, 102, 104, 105, 106, 108, 109, 111, 112, 113, 115, 116, 118, 119, 120, 123, 124, 125, 127, 128, 130, 131, 132, 135, 136, 137, 139, 140, 142, 143, 144, 147, 148, 149, 152, 153]
theorem keys1 (P : Params) : as1 = (hd.heap_1 P).map (·.1) := by kernel_rfl
noncomputable abbrev H1 : Hook := kmHook hd.heap_1 as1 keys1 [107]
theorem left1 : LeftO (OpenRow.toRowW (OpenLaw.row PySem.Challenge.rw_sc0056_01)).prog hd.view_1 [] (fun s => xlAt hd.view_1 [] s && recOk (RowW.records (OpenRow.toRowW (OpenLaw.row PySem.Challenge.rw_sc0056_01))) s) (Hook.obs H1) (Hook.val H1) 1742 := by
  intro w
  kernel_rfl
theorem hd1 {d : DefRec} {kwd : List (Str × Expr)} (hdef : defOf hd.view_1 (OpenRow.toRowW (OpenLaw.row PySem.Challenge.rw_sc0056_01)).name = some (d, kwd))
    (hp : (OpenRow.toRowW (OpenLaw.row PySem.Challenge.rw_sc0056_01)).prog.theDef (OpenRow.toRowW (OpenLaw.row PySem.Challenge.rw_sc0056_01)).name = some (d.params, d.body, d.scope)) (hk : kwWritten? d.params.kwonlyargs d.params.kw_defaults = some kwd)
    (call : WalkO hd.view_1 [] (XL hd.view_1 []) (kmHook hd.heap_1 as1 keys1 [107]).says (OpenRow.toRowW (OpenLaw.row PySem.Challenge.rw_sc0056_01)) d kwd fun f vs => PySem.call f vs) : PySem.Challenge.rw_sc0056_01.Holds :=
  holds_law said1 fun said => holds_open left1 (Hook.of H1) (Hook.keeps H1) (fun s e => xl_of s (Bool.and_eq_true_iff.mp e).1) XL.keeps hdef hp hk (fun s e => recFacts_of (Bool.and_eq_true_iff.mp e).2) rfl said (by decide +kernel) ⟨rfl, rfl, rfl, rfl, rfl, by decide +kernel⟩ (by w_witness2) call
end
section
noncomputable def StopH : Prop := True
noncomputable def StopI : Prop := 0 = 0
end
section
theorem oS {a b k : Nat} (h : a ≤ b) : a ≤ b + k := Nat.le_trans h (Nat.le_add_right b k)
theorem oL {a b k : Nat} (h : a ≤ b) : a < b + (k + 1) := Nat.lt_of_le_of_lt h (Nat.lt_add_of_pos_right (Nat.succ_pos k))
theorem oH {a b c : Nat} (h : c < b) (i : a ≤ c) : a < b := Nat.lt_of_le_of_lt i h
theorem oA {a b c : Nat} (h : b ≤ c) : a + b ≤ a + c := Nat.add_le_add_left h a
theorem oA2 {a b c d : Nat} (h : b + c ≤ d) : a + b + c ≤ a + d := by rw [Nat.add_assoc]; exact Nat.add_le_add_left h a
theorem oA3 {a b c e d : Nat} (h : b + c + e ≤ d) : a + b + c + e ≤ a + d := by omega
theorem oB {a b : Nat} : a ≤ a + b := Nat.le_add_right a b
theorem oN {a n : Nat} {i : OfNat Nat n} (h : False) : a ≤ @OfNat.ofNat Nat n i := h.elim
theorem oM {a n : Nat} {i : OfNat Nat n} (h : False) : a < @OfNat.ofNat Nat n i := h.elim
theorem oXn {a b : Nat} (h : a ≠ b) : a ≠ b := h
theorem oXl {a b : Nat} (h : a < b) : a < b := h
theorem oXe {a b : Nat} (h : a ≤ b) : a ≤ b := h
theorem oE {a b : Nat} (h : a < b := by assumption) : a + 1 ≤ b := h
theorem oD {a b : Nat} (h : a < b := by assumption) : b - (a + 1) < b - a := by omega
theorem oT0 {x m N : Nat} (h : x ≤ m := by assumption) (h2 : m < N := by with_unfolding_all exact Nat.le_of_ble_eq_true rfl) : x < N := Nat.lt_of_le_of_lt h h2
theorem oT4 {x m N : Nat} (h : x ≤ m := by assumption) (h2 : m ≤ N := by with_unfolding_all exact Nat.le_of_ble_eq_true rfl) : x ≤ N := Nat.le_trans h h2
theorem oT5 {x m N : Nat} (h : x < m := by assumption) (h2 : m ≤ N := by with_unfolding_all exact Nat.le_of_ble_eq_true rfl) : x < N := Nat.lt_of_lt_of_le h h2
theorem oT1 {c x m N : Nat} (h : x ≤ m := by assumption) (h2 : c + m ≤ N := by with_unfolding_all exact Nat.le_of_ble_eq_true rfl) : c + x ≤ N := by omega
theorem oT2 {c x d m N : Nat} (h : x ≤ m := by assumption) (h2 : c + m + d ≤ N := by with_unfolding_all exact Nat.le_of_ble_eq_true rfl) : c + x + d ≤ N := by omega
theorem oT3 {x d m N : Nat} (h : x ≤ m := by assumption) (h2 : m + d ≤ N := by with_unfolding_all exact Nat.le_of_ble_eq_true rfl) : x + d ≤ N := by omega
theorem oP {x a M N : Nat} (h : x + a ≤ M := by assumption) (h2 : M ≤ N := by with_unfolding_all exact Nat.le_of_ble_eq_true rfl) : x ≤ N := by omega
theorem oP2 {x a b M N : Nat} (h : x + a + b ≤ M := by assumption) (h2 : M ≤ N := by with_unfolding_all exact Nat.le_of_ble_eq_true rfl) : x ≤ N := by omega
theorem oQ1 {a b N : Nat} (h : a + (b + 1) ≤ N := by assumption) : a + (0 + 1) + b ≤ N := by omega
theorem oQ2 {a b N : Nat} (h : a + (b + 1 + 1) ≤ N := by assumption) : a + (0 + 1) + b ≤ N := by omega
theorem oQ3 {b N : Nat} (h : b + 1 + 1 ≤ N := by assumption) : 0 + 1 + b ≤ N := by omega
theorem oQ4 {b N : Nat} (h : b + 1 ≤ N := by assumption) : 0 + 1 + b ≤ N := by omega
theorem oQ5 {a b M N : Nat} (h : a + (b + 1) ≤ M := by assumption) (h2 : M ≤ N := by with_unfolding_all exact Nat.le_of_ble_eq_true rfl) : a + (0 + 1) ≤ N := by omega
theorem oQ6 {a b N : Nat} (h : a + (b + 1) ≤ N := by assumption) : a + b ≤ N := by omega
theorem oI1 {a b X : Int} (h : a + (b + 1) = X := by assumption) : a + 1 + b = X := by omega
theorem oI2 {x : Nat} (h : 1 ≤ x) : (0 : Int) < ((x : Nat) : Int) := by omega
theorem oI3 {x : Nat} : (0 : Int) ≤ ((x : Nat) : Int) := Int.natCast_nonneg x
theorem oa1 {p q : Prop} (h : p ∧ q := by assumption) : p := h.1
theorem ob1 {p q : Prop} (h : p ∧ q := by assumption) : q := h.2
theorem oa2 {a p q : Prop} (h : a ∧ p ∧ q := by assumption) : p := h.2.1
theorem ob2 {a p q : Prop} (h : a ∧ p ∧ q := by assumption) : q := h.2.2
theorem oa3 {a b p q : Prop} (h : a ∧ b ∧ p ∧ q := by assumption) : p := h.2.2.1
theorem ob3 {a b p q : Prop} (h : a ∧ b ∧ p ∧ q := by assumption) : q := h.2.2.2
theorem oa4 {a b c p q : Prop} (h : a ∧ b ∧ c ∧ p ∧ q := by assumption) : p := h.2.2.2.1
theorem ob4 {a b c p q : Prop} (h : a ∧ b ∧ c ∧ p ∧ q := by assumption) : q := h.2.2.2.2
theorem oa5 {a b c d p q : Prop} (h : a ∧ b ∧ c ∧ d ∧ p ∧ q := by assumption) : p := h.2.2.2.2.1
theorem ob5 {a b c d p q : Prop} (h : a ∧ b ∧ c ∧ d ∧ p ∧ q := by assumption) : q := h.2.2.2.2.2
theorem oa6 {a b c d e p q : Prop} (h : a ∧ b ∧ c ∧ d ∧ e ∧ p ∧ q := by assumption) : p := h.2.2.2.2.2.1
theorem ob6 {a b c d e p q : Prop} (h : a ∧ b ∧ c ∧ d ∧ e ∧ p ∧ q := by assumption) : q := h.2.2.2.2.2.2
theorem oa7 {a b c d e f p q : Prop} (h : a ∧ b ∧ c ∧ d ∧ e ∧ f ∧ p ∧ q := by assumption) : p := h.2.2.2.2.2.2.1
theorem ob7 {a b c d e f p q : Prop} (h : a ∧ b ∧ c ∧ d ∧ e ∧ f ∧ p ∧ q := by assumption) : q := h.2.2.2.2.2.2.2
end
section
local macro_rules | `(tactic| omega) => `(tactic| k_extra "om")
example : True := by
  k_with_none
  k_with "olt" => (first | assumption | ((fail_if_success refine oM ?_); refine oL ?_; k_extra "ole") | k_extra "olh")
  k_with "olh" => (refine oH (by assumption) (by k_extra "ole"))
  k_with "ole" => (first | exact Nat.le_refl _ | assumption | exact oB | ((first | refine oA ?_ | refine oA2 ?_ | refine oA3 ?_); k_extra "ocl") | (refine oS ?_; k_extra "ole") | (refine Nat.le_of_lt ?_; (first | assumption | k_extra "olh")) | exact oE)
  k_with "olt2" => (first | k_extra "oas" | ((fail_if_success refine oM ?_); refine oL ?_; k_extra "ole2") | k_extra "olh2")
  k_with "olh2" => (refine oH (by k_extra "oas") (by k_extra "ole2"))
  k_with "ole2" => (first | exact Nat.le_refl _ | k_extra "oas" | exact oB | ((first | refine oA ?_ | refine oA2 ?_ | refine oA3 ?_); k_extra "ocl") | (refine oS ?_; k_extra "ole2") | (refine Nat.le_of_lt ?_; (first | k_extra "oas" | k_extra "olh2")) | exact oE)
  k_with "opu" => (first | exact oB | exact Nat.le_refl _ | (refine oS ?_; k_extra "opu"))
  k_with "olt0" => (refine oL ?_; k_extra "opu")
  k_with "one" => (first | (refine Nat.ne_of_gt ?_; (fail_if_success refine oM ?_); k_extra "olt0") | (refine Nat.ne_of_lt ?_; (fail_if_success refine oM ?_); k_extra "olt0") | exact Ne.symm (by assumption) | (refine Nat.ne_of_gt ?_; (fail_if_success refine oM ?_); k_extra "oas") | (refine Nat.ne_of_lt ?_; (fail_if_success refine oM ?_); k_extra "oas") | (refine Nat.ne_of_gt ?_; (fail_if_success refine oM ?_); k_extra "odd") | (refine Nat.ne_of_lt ?_; (fail_if_success refine oM ?_); k_extra "odd") | (refine Nat.ne_of_gt ?_; (fail_if_success refine oM ?_); k_extra "olt") | (refine Nat.ne_of_lt ?_; (fail_if_success refine oM ?_); k_extra "olt") | (refine Nat.ne_of_gt ?_; (fail_if_success refine oM ?_); k_extra "olt2") | (refine Nat.ne_of_lt ?_; (fail_if_success refine oM ?_); k_extra "olt2") | decide)
  k_with "ol1" => (first | ((fail_if_success refine oM ?_); first | k_extra "oas" | k_extra "olt0" | k_extra "odd" | k_extra "olt" | k_extra "olt2") | k_extra "ocl" | exact oT0 | exact oT5)
  k_with "oe1" => (first | ((fail_if_success refine oN ?_); first | k_extra "oas" | k_extra "opu" | k_extra "ole" | k_extra "ole2" | exact oE (by k_extra "oas")) | k_extra "ocl" | k_extra "olit" | k_extra "oas")
  k_with "olit" => (first | exact oT4 | exact oP | exact oP2 | exact oT1 | exact oT2 | exact oT3 | exact oQ5 | exact oQ1 | exact oQ2 | exact oQ3 | exact oQ4 | exact oQ6 | exact oD)
  k_with "ocl" => (with_unfolding_all exact Nat.le_of_ble_eq_true rfl)
  k_with "oas" => (first | assumption | exact oa1 | exact ob1 | exact oa2 | exact ob2 | exact oa3 | exact ob3 | exact oa4 | exact ob4 | exact oa5 | exact ob5 | exact oa6 | exact ob6 | exact oa7 | exact ob7)
  k_with "odd" => (first | exact oa1 ob7 | exact oa2 ob7 | exact oa3 ob7 | exact oa4 ob7 | exact oa5 ob7 | exact oa6 ob7 | exact oa7 ob7 | exact oa1 (ob7 ob7) | exact oa2 (ob7 ob7) | exact oa3 (ob7 ob7) | exact oa4 (ob7 ob7) | exact oa5 (ob7 ob7) | exact oa6 (ob7 ob7) | exact oa7 (ob7 ob7) | exact ob1 ob7 | exact ob2 ob7 | exact ob3 ob7 | exact ob4 ob7 | exact ob5 ob7 | exact ob6 ob7 | exact ob7 ob7)
  k_with "oin" => (first | decide | exact oI1 | exact oI3 | exact oI2 (by k_extra "oas"))
  k_with "om" => (with_reducible first | (first | assumption | ((fail_if_success fail_if_success refine oXn ?_); k_extra "one") | ((fail_if_success fail_if_success refine oXl ?_); k_extra "ol1") | ((fail_if_success fail_if_success refine oXe ?_); k_extra "oe1") | k_extra "oin") | fail)
  trivial
section
open PySem PySem.W PyProof.Rows
noncomputable def S (l : List Nat) : PySem.Str := ⟨l.toArray⟩
noncomputable def dots : List Nat := [46, 46, 46]
@[simp] theorem S_len (l : List Nat) : (S l).length = l.length := by simp [S, PySem.Str.length]
@[simp] theorem S_cps (l : List Nat) : (S l).cps.toList = l := by simp [S]
@[simp] theorem S_size (l : List Nat) : (S l).cps.size = l.length := by simp [S]
theorem S_app (a b : List Nat) : S a ++ S b = S (a ++ b) := by
  show PySem.Str.append _ _ = _
  simp [PySem.Str.append, S]
theorem S_inj {a b : List Nat} : S a = S b ↔ a = b := by simp [S]
theorem S_beq (a b : List Nat) : (S a == S b) = (a == b) := by
  rw [Bool.eq_iff_iff]; simp [S_inj]
theorem S_startswith (t a : List Nat) : Txt.startswith (S t) (S a) = a.isPrefixOf t := by
  unfold Txt.startswith
  rw [StrLaws.subAt_eq, Bool.eq_iff_iff]
  simp only [S_len, S_cps, List.drop_zero, Bool.and_eq_true, decide_eq_true_eq, beq_iff_eq, List.isPrefixOf_iff_prefix, Nat.zero_add]
  constructor
  · intro h; rw [← h.2]; exact List.take_prefix _ _
  · intro h; exact ⟨h.length_le, (List.prefix_iff_eq_take.mp h).symm⟩
theorem S_endswith (t a : List Nat) : Txt.endswith (S t) (S a) = a.isSuffixOf t := by
  unfold Txt.endswith
  rw [StrLaws.subAt_eq, Bool.eq_iff_iff]
  simp only [S_len, S_cps, Bool.and_eq_true, decide_eq_true_eq, beq_iff_eq, List.isSuffixOf_iff_suffix, Nat.zero_add]
  constructor
  · intro h
    have e : (t.drop (t.length - a.length)).take a.length = t.drop (t.length - a.length) := by
      apply List.take_of_length_le; simp; omega
    rw [e] at h; rw [← h.2]; exact List.drop_suffix _ _
  · intro h
    have e := List.suffix_iff_eq_drop.mp h
    refine ⟨h.length_le, ?_⟩
    rw [← e, List.take_length]
theorem S_charAt {l : List Nat} {i : Int} {c : Nat} (h0 : 0 ≤ i) (h : l[i.toNat]? = some c) : Txt.charAt (S l) i = some c := by
  have hlt : i.toNat < l.length := (List.getElem?_eq_some_iff.mp h).1
  unfold Txt.charAt
  rw [StrLaws.seqIndex_nonneg h0 (by rw [S_len]; omega)]
  simpa [S] using h
theorem S_slice (t : List Nat) {i j : Int} (h0 : 0 ≤ i) (h1 : i ≤ j) (h2 : j ≤ t.length) : Txt.slice (S t) (some i) (some j) = S ((t.drop i.toNat).take (j - i).toNat) := by
  have := StrLaws.sliceText_plain (x := S t) (i := i) (j := j) ⟨h0, h1, by simpa using h2⟩
  rw [S_cps] at this
  exact this
theorem S_sliceTo (t : List Nat) {j : Int} (h0 : 0 ≤ j) (h2 : j ≤ t.length) : Txt.slice (S t) none (some j) = S (t.take j.toNat) := by
  have := StrLaws.sliceText_to (x := S t) (j := j) ⟨h0, by simpa using h2⟩
  rw [S_cps] at this
  refine Eq.trans this ?_
  show S _ = _
  rw [S_inj]
  simp
theorem S_sliceFrom (t : List Nat) {i : Int} (h0 : 0 ≤ i) (h2 : i ≤ t.length) : Txt.slice (S t) (some i) none = S (t.drop i.toNat) := by
  have := StrLaws.sliceText_from (x := S t) (i := i) ⟨h0, by simpa using h2⟩
  rw [S_cps] at this
  refine Eq.trans this ?_
  show S _ = _
  rw [S_inj]
  apply List.take_of_length_le
  simp; omega

open Builtin Builtin.Str in
theorem S_replace (x z : List Nat) (c : Nat) : Txt.replace (S x) (S [c]) (S z) = S (x.flatMap fun k => if k = c then z else [k]) := by
  have hj := StrLaws.join_split (S x) (S [c])
  have hf := StrLaws.split_free (S x) c
  have hr := StrLaws.replace_one (S x) (S z) c
  have e : (⟨#[c]⟩ : PySem.Str) = S [c] := rfl
  rw [e] at hr hf
  rw [hr]
  generalize Txt.split (S x) (S [c]) = ps at hj hf
  have free : ∀ l : List Nat, c ∉ l → l.flatMap (fun k => if k = c then z else [k]) = l := by
    intro l h
    induction l with
    | nil => rfl
    | cons a r ih =>
      have h1 : ¬ a = c := fun e => h (e ▸ List.mem_cons_self ..)
      rw [List.flatMap_cons, if_neg h1, ih fun m => h (List.mem_cons_of_mem _ m)]; rfl
  have key : ∀ ps : List PySem.Str, (∀ p ∈ ps, c ∉ p.cps.toList) → (PySem.Str.join (S z) ps).cps.toList = (PySem.Str.join (S [c]) ps).cps.toList.flatMap fun k => if k = c then z else [k] := by
    intro ps
    induction ps with
    | nil => intro _; rfl
    | cons p r ih =>
      intro h
      cases r with
      | nil => exact (free _ (h p (List.mem_cons_self ..))).symm
      | cons q r =>
        have ih' := ih fun a ha => h a (List.mem_cons_of_mem _ ha)
        show (p ++ S z ++ PySem.Str.join (S z) (q :: r)).cps.toList = (p ++ S [c] ++ PySem.Str.join (S [c]) (q :: r)).cps.toList.flatMap _
        simp only [PySem.Str.cps_append, Array.toList_append, List.flatMap_append]
        rw [ih', free _ (h p (List.mem_cons_self ..))]
        simp
  apply PySem.Str.ext'
  apply Array.ext'
  rw [key _ hf, hj]
  simp

noncomputable def glue : List (List Nat) → List Nat
  | [] => []
  | [p] => p
  | p :: q :: r => p ++ dots ++ glue (q :: r)
open Builtin Builtin.Str StrLaws in
theorem at_dots (w : List Nat) (k : Nat) : At (S w) (S dots) (S w).length k ↔ ((w.drop k).take 3 = dots) := by
  unfold At
  rw [subAt_eq, S_cps, S_cps, S_len, S_len, beq_iff_eq]
  constructor
  · exact fun h => h.2
  · intro h
    refine ⟨?_, h⟩
    have : ((w.drop k).take 3).length = 3 := by rw [h]; rfl
    simp at this
    show k + 3 ≤ _
    omega
theorem at_free {w p rest : List Nat} {a k : Nat} (hw : w.drop a = p ++ rest) (hp : 46 ∉ p) (h1 : a ≤ k) (h2 : k < a + p.length) : (w.drop k).take 3 ≠ dots := by
  intro h
  have e1 : w[k]? = some 46 := by
    have : ((w.drop k).take 3)[0]? = some 46 := by rw [h]; rfl
    rw [List.getElem?_take_of_lt (by omega), List.getElem?_drop] at this
    simpa using this
  have e2 : (w.drop a)[k - a]? = some 46 := by
    rw [List.getElem?_drop, show a + (k - a) = k by omega]; exact e1
  rw [hw, List.getElem?_append_left (by omega)] at e2
  exact hp (List.mem_of_getElem? e2)
open Builtin Builtin.Str StrLaws in
theorem parts_glue (w : List Nat) : ∀ (parts : List (List Nat)) (a f : Nat) (cuts : List Nat), parts ≠ [] → (∀ p ∈ parts, 46 ∉ p) → a ≤ w.length → w.drop a = glue parts →
    ChainG (S w) (S dots) (S w).length a cuts f → (∀ k, f ≤ k → ¬ At (S w) (S dots) (S w).length k) → partsFrom (S w) 3 a cuts = parts.map S
  | [], _, _, _, h, _, _, _, _, _ => absurd rfl h
  | [p], a, f, cuts, _, hp, ha, hw, hc, hn => by
    have hp' := hp p (List.mem_cons_self ..)
    have hw' : w.drop a = p ++ [] := by rw [List.append_nil]; exact hw
    have hl : p.length = w.length - a := by have := congrArg List.length hw; simp [glue] at this; omega
    cases cuts with
    | nil =>
      show [strSub (S w) a (S w).length] = [S p]
      congr 1
      apply PySem.Str.ext'; apply Array.ext'
      rw [strSub_toList, S_cps, S_cps, hw, S_len, ← hl]
      exact List.take_length
    | cons c r =>
      exfalso
      have h1 := (at_dots w c).mp hc.2.1
      have h2 : c + 3 ≤ w.length := by have := hc.2.1.1; rw [S_len] at this; simpa [dots] using this
      exact at_free hw' hp' hc.1 (by omega) h1
  | p :: q :: r, a, f, cuts, _, hp, ha, hw, hc, hn => by
    have hp' := hp p (List.mem_cons_self ..)
    have hw' : w.drop a = p ++ (dots ++ glue (q :: r)) := by rw [hw]; simp [glue]
    have hl : w.length - a = p.length + (3 + (glue (q :: r)).length) := by have := congrArg List.length hw'; simp [dots] at this; omega
    have hd : w.drop (a + p.length) = dots ++ glue (q :: r) := by
      rw [← List.drop_drop, hw', List.drop_left]
    have hat : At (S w) (S dots) (S w).length (a + p.length) := by
      rw [at_dots, hd]; rfl
    cases cuts with
    | nil =>
      exfalso
      have e : f = a := hc
      exact hn (a + p.length) (by omega) hat
    | cons c cs =>
      have hc1 : c ≤ a + p.length := by
        apply Nat.le_of_not_lt; intro h
        exact hc.2.2.1 (a + p.length) (by omega) h hat
      have hc2 : ¬ c < a + p.length := fun h => at_free hw' hp' hc.1 h ((at_dots w c).mp hc.2.1)
      have ec : c = a + p.length := by omega
      subst ec
      show strSub (S w) a (a + p.length) :: partsFrom (S w) 3 (a + p.length + 3) cs = S p :: (q :: r).map S
      congr 1
      · apply PySem.Str.ext'; apply Array.ext'
        rw [strSub_toList, S_cps, S_cps, hw', show a + p.length - a = p.length by omega]
        exact List.take_left' rfl
      · refine parts_glue w (q :: r) (a + p.length + 3) f cs (by simp) (fun x hx => hp x (List.mem_cons_of_mem _ hx)) (by omega) ?_ hc.2.2.2 hn
        rw [← List.drop_drop, hd]; rfl
open Builtin Builtin.Str StrLaws in
theorem S_split (parts : List (List Nat)) (h0 : parts ≠ []) (hp : ∀ p ∈ parts, 46 ∉ p) : Txt.split (S (glue parts)) (S dots) = parts.map S := by
  obtain ⟨f, h1, h2⟩ := occ_tight (S (glue parts)) (S dots) (by decide)
  have key := parts_glue (glue parts) parts 0 f _ h0 hp (Nat.zero_le _) rfl h1 h2
  have hk : Str.strKind (S dots) = 1 := by decide +kernel
  have hk2 : 1 ≤ Str.strKind (S (glue parts)) := by unfold Str.strKind; split <;> (try split) <;> omega
  have one : (occurrences (S (glue parts)) (S dots) 0 (S (glue parts)).length ((S (glue parts)).length + 1)).isEmpty = true → [S (glue parts)] = parts.map S := by
    intro he
    rw [List.isEmpty_iff] at he
    rw [he] at key
    rw [← key]
    show [_] = [strSub _ 0 _]
    congr 1
    apply PySem.Str.ext'; apply Array.ext'
    rw [strSub_toList, S_cps]
    simp
  unfold Txt.split
  split
  · rename_i h
    rw [hk] at h
    have hlt : (S (glue parts)).length < (S dots).length := by
      rcases Bool.or_eq_true_iff.mp h with h | h
      · exact of_decide_eq_true h
      · have := of_decide_eq_true h; omega
    refine one ?_
    rw [List.isEmpty_iff]
    cases ho : occurrences (S (glue parts)) (S dots) 0 (S (glue parts)).length ((S (glue parts)).length + 1) with
    | nil => rfl
    | cons c r =>
      rw [ho] at h1
      have := h1.2.1.1
      omega
  · split
    · rename_i h; exact one h
    · rw [partsBetween_eq]; exact key
open Builtin Builtin.Str StrLaws in
theorem S_contains (a b : List Nat) : Txt.contains (S (a ++ dots ++ b)) (S dots) = true := by
  unfold Txt.contains
  rw [found_iff]
  refine ⟨a.length, by simp [dots], ?_⟩
  rw [subAt_eq, S_cps, S_cps, S_len, List.append_assoc, List.drop_left]
  simp [dots]
theorem S_contains1 (x : List Nat) (c : Nat) : Txt.contains (S x) (S [c]) = decide (c ∈ x) := by
  have := StrLaws.found_one (S x) c
  rw [S_cps] at this
  exact this
end
section
open PySem PySem.W PyProof.Rows
section
open Builtin Builtin.Str
theorem gives_find4 (x y : PySem.Str) (i j : Int) (t u v r : Tok) : Gives (Builtin.«str.find» ⟨[.str x t, .str y u, .int i v, .int j r], []⟩) (.int (match occurrences x y (fromIndex x.length i) (min (fromIndex x.length j) x.length) 1 with | k :: _ => (k : Int) | [] => -1)) := by
  show Gives (match occurrences x y (fromIndex x.length i) (min (fromIndex x.length j) x.length) 1 with | k :: _ => retInt k | [] => (do rule "str.find.not-found"; retInt (-1))) _
  cases occurrences x y (fromIndex x.length i) (min (fromIndex x.length j) x.length) 1 with
  | nil => exact .rule (.of_eq rfl)
  | cons k _ => exact .of_eq rfl
theorem occ_empty (s : PySem.Str) {lo hi : Nat} (h : lo ≤ hi) : occurrences s (S []) lo hi 1 = [lo] := by
  have hs : ∀ i, subAt s (S []) i = true := fun i => by rw [StrLaws.subAt_eq]; simp
  rw [StrLaws.occ_eq]
  obtain ⟨n, rfl⟩ := Nat.exists_eq_add_of_le h
  rw [show lo + n + 1 - lo = n + 1 by omega, List.range'_succ, List.forIn_cons]
  have h1 : StrLaws.occBody s (S []) (lo + n) 1 lo (#[], lo) = pure (.yield (#[lo], lo)) := by
    unfold StrLaws.occBody
    have hs' := hs lo
    simp only [S, PySem.Str.length] at hs' ⊢
    simp [hs']
  rw [h1]
  show ((forIn (List.range' (lo + 1) n) (#[lo], lo) (StrLaws.occBody s (S []) (lo + n) 1)).run).fst.toList = [lo]
  have key : ∀ (l : List Nat) (f : Nat), ((forIn l (#[lo], f) (StrLaws.occBody s (S []) (lo + n) 1) : Id _).run).fst = #[lo] := by
    intro l
    induction l with
    | nil => intro f; rfl
    | cons a r ih =>
      intro f
      rw [List.forIn_cons]
      have : StrLaws.occBody s (S []) (lo + n) 1 a (#[lo], f) = pure (.yield (#[lo], f)) := by
        unfold StrLaws.occBody; simp
      rw [this]
      exact ih f
  rw [key]
end
section
variable {prog : Program} {w : World} {A : Around} {E : Value → Shared → Prop} {s : Shared} {h₀ : Heap} {L : Addr} {m : PySem.Str → Option Value} {news : List (Addr × Obj)} {x y : PySem.Str} {t u v r : Tok} {Q : Value → Shared → Prop}
theorem r_split2 {a b : List Nat} (F : Fr h₀ L s.heap m) (N : News h₀ L s.heap news) (hy : y = S dots) (ha : 46 ∉ a) (hb : 46 ∉ b) (hl : a.length + b.length ≤ 100000)
    (h : ∀ D t1 t2 h' k, Fr h₀ L h' m → News h₀ L h' ((D, listOf #[.str (S a) t1, .str (S b) t2] 0) :: news) → (∀ p ∈ news, p.1 < D) → Q (.ref D) { s with heap := h', toks := k }) :
    wpAny (model prog w) A (call (.builtin "str.split") [.str (S (a ++ dots ++ b)) t, .str y u]) Q E s := by
  subst hy
  refine KSpl.split1 F N rfl (fun D l h' k e1 _ F' N' lt => ?_) (by simp [sizeLine, dots]; omega)
  rw [show a ++ dots ++ b = glue [a, b] by simp [glue], S_split _ (by simp) (by simp [ha, hb])] at e1
  obtain ⟨t1, l1, rfl, e2⟩ := KSpl.cons_of e1
  obtain ⟨t2, l2, rfl, e3⟩ := KSpl.cons_of e2
  obtain rfl := KSpl.nil_of e3
  exact h D t1 t2 h' k F' N' lt
theorem r_notin_dots {a b : List Nat} (hy : y = S dots) (h : Q (.bool false) s) : wpAny (model prog w) A (compareOp .NotIn (.str y u) (.str (S (a ++ dots ++ b)) t)) Q E s := by
  subst hy
  refine SB.notContains ?_
  rw [S_contains]
  exact h
theorem r_len {l : List Nat} (hl : l.length ≤ 1000000) (h : Q (.int (l.length : Nat) (s.toks + 1)) { s with toks := s.toks + 1 + 1 }) : wpAny (model prog w) A (call (.builtin "len") [.str (S l) t]) Q E s := by
  refine P.len_str (by rw [S_len]; omega) ?_
  rw [S_len]; exact h
theorem r_starts {a b : List Nat} (h : Q (.bool (b.isPrefixOf a)) s) : wpAny (model prog w) A (call (.builtin "str.startswith") [.str (S a) t, .str (S b) u]) Q E s := by
  refine SC.startswith ?_
  rw [S_startswith]; exact h
theorem r_ends {a b : List Nat} (h : Q (.bool (b.isSuffixOf a)) s) : wpAny (model prog w) A (call (.builtin "str.endswith") [.str (S a) t, .str (S b) u]) Q E s := by
  refine SC.endswith ?_
  rw [S_endswith]; exact h
theorem r_truthy {l : List Nat} {Q : Bool → Shared → Prop} (hl : l.length ≤ 1000000) (h : Q (decide (l ≠ [])) { s with toks := s.toks + 1 + 1 }) : wpAny (model prog w) A (truthy (.str (S l) t)) Q E s := by
  refine P.truthy_str (by rw [S_len]; omega) ?_
  have : (((S l).length : Int) != 0) = decide (l ≠ []) := by
    rw [S_len, Bool.eq_iff_iff]; simp
  rw [this]; exact h
theorem r_find_empty {a : List Nat} {i j : Int} (h0 : 0 ≤ i) (h1 : i ≤ j) (h2 : j ≤ a.length) (h : Q (.int i s.toks) { s with toks := s.toks + 1 }) :
    wpAny (model prog w) A (call (.builtin "str.find") [.str (S a) t, .str (S []) u, .int i v, .int j r]) Q E s := by
  refine call_gives F.slot_str_find (typeIs_str _ _ _) F.entry_str_find (F.args_str_find_4 _ _ _ _) (gives_find4 _ _ i j t u v r) ?_
  have e1 : fromIndex (S a).length i = i.toNat := by unfold fromIndex; rw [if_neg (by omega)]; omega
  have e2 : min (fromIndex (S a).length j) (S a).length = j.toNat := by unfold fromIndex; rw [if_neg (by omega), S_len]; omega
  rw [e1, e2, occ_empty _ (by omega)]
  show Q (.int ((i.toNat : Nat) : Int) _) _
  rw [show ((i.toNat : Nat) : Int) = i by omega]
  exact h
theorem r_find_none {a b : List Nat} {i j : Int} (hb : ¬ b ≠ []) (h0 : 0 ≤ i) (h1 : i ≤ j) (h2 : j ≤ a.length) (h : (b.length : Int) = 0 → Q (.int i s.toks) { s with toks := s.toks + 1 }) :
    wpAny (model prog w) A (call (.builtin "str.find") [.str (S a) t, .str (S b) u, .int i v, .int j r]) Q E s := by
  obtain rfl : b = [] := Classical.not_not.mp hb
  exact r_find_empty h0 h1 h2 (h rfl)
end
end
section
open PySem PySem.W PyProof.Rows
/-- what stood stands -/
noncomputable abbrev Kept (h h' : Heap) : Prop := ∀ b o, h.get? b = some o → h'.get? b = some o
/-- a call of the def at f that changes nothing that stood: what it gives back is R's -/
noncomputable abbrev PCon (n : Nat) (prog : Program) (w : World) (K : Frag) (p : Program) (loose : List PySem.Str) (mean : ExcName → Option Value) (mg mb : PySem.Str → Option Value) (f : Addr) (vs : List Value) (R : Heap → Heap → Value → Prop) : Prop :=
  ∀ (dp un : Nat) (gd : Option (List Code)) (cn : PySem.Str) (cs : Scope) (a : Addr) (ccd : Value) (cl : List (PySem.Str × Addr)) (outer : List Env) (A₀ : Around) (base h₀ : Heap) (L : Addr) (m : PySem.Str → Option Value) (s : Shared) (Q E : Value → Shared → Prop),
    Below A₀ base outer h₀ → Fr h₀ L s.heap m → K.In h₀ → Top p loose mean mg mb h₀ → cs.kind = .function → dp + n < recursionLimit → un + 16 * n < cLine →
    (∀ (v : Value) (h' : Heap) (tk' : Nat), Kept s.heap h' → R s.heap h' v → Q v { s with heap := h', toks := tk' }) →
    wpAny (model prog w) (ktrTop dp un gd cn cs L a ccd cl outer) (call (.ref f) vs) Q E s
theorem pc_kept {h g h' : Heap} {L' : Addr} {m' : PySem.Str → Option Value} (G : GSub h g []) (F : Fr g L' h' m') : Kept h h' := fun b o e => F.keep b o (G b o e (by simp))
theorem gsub_none {h g : Heap} {D : Addr} (G : GSub h g []) (e : g.get? D = none) : h.get? D = none := by
  cases q : h.get? D with
  | none => rfl
  | some o => rw [G D o q (by simp)] at e; cases e
theorem pcon_use {n : Nat} {prog : Program} {w : World} {K : Frag} {p : Program} {loose : List PySem.Str} {mean : ExcName → Option Value} {mg mb : PySem.Str → Option Value} {f : Addr} {vs : List Value} {R : Heap → Heap → Value → Prop}
    {dp un : Nat} {gd : Option (List Code)} {cn : PySem.Str} {cs : Scope} {a : Addr} {ccd : Value} {cl : List (PySem.Str × Addr)} {outer : List Env} {A₀ : Around} {base h₀ : Heap} {L : Addr} {m : PySem.Str → Option Value} {s : Shared} {Q E : Value → Shared → Prop}
    (C : PCon n prog w K p loose mean mg mb f vs R)
    (B : Below A₀ base outer h₀) (F : Fr h₀ L s.heap m) (X : K.In h₀) (T : Top p loose mean mg mb h₀) (hk : cs.kind = .function) (hd : dp + n < recursionLimit) (hu : un + 16 * n < cLine)
    (ret : ∀ (v : Value) (h' : Heap) (tk' : Nat), Kept s.heap h' → R s.heap h' v → Q v { s with heap := h', toks := tk' }) :
    wpAny (model prog w) (ktrTop dp un gd cn cs L a ccd cl outer) (call (.ref f) vs) Q E s := C _ _ _ _ _ _ _ _ _ _ _ _ _ _ _ _ _ B F X T hk hd hu ret
noncomputable def AllNe (d : Addr) : List (Addr × Obj) → Prop
  | [] => True
  | p :: r => @Ne Nat p.1 d ∧ AllNe d r
theorem news_add {h₀ h h' : Heap} {L D : Addr} {m : PySem.Str → Option Value} {news : List (Addr × Obj)} {o : Obj} (F : Fr h₀ L h m) (N : News h₀ L h news) (K : Kept h h') (hD : h'.get? D = some o) (hn : h.get? D = none) : News h₀ L h' ((D, o) :: news) ∧ AllNe D news := by
  refine ⟨fun p hp => ?_, ?_⟩
  · rcases List.mem_cons.mp hp with rfl | hp
    · refine ⟨hD, ?_, ?_⟩
      · intro e
        obtain ⟨oL, _, _, hL, _⟩ := F.ns
        have : h.get? L = none := by rw [← e]; exact hn
        rw [hL] at this; cases this
      · cases q : h₀.get? D with
        | none => rfl
        | some o' => have := F.keep D o' q; rw [hn] at this; cases this
    · exact ⟨K _ _ (N p hp).1, (N p hp).2⟩
  · have : ∀ l : List (Addr × Obj), (∀ p ∈ l, p ∈ news) → AllNe D l := by
      intro l
      induction l with
      | nil => intro _; trivial
      | cons p r ih =>
        intro hs
        refine ⟨fun e => ?_, ih fun q hq => hs q (List.mem_cons_of_mem _ hq)⟩
        have := (N p (hs p (List.mem_cons_self ..))).1
        have e' : p.1 = D := e
        rw [e', hn] at this; cases this
    exact this news fun _ h => h
noncomputable def ellB (a b t : List Nat) : Bool := a.isPrefixOf t && b.isSuffixOf t && decide (a.length + b.length ≤ t.length)
theorem ell_f1 {a b t : List Nat} (h : a.isPrefixOf t = false) : Value.bool false = .bool (ellB a b t) := by simp [ellB, h]
theorem ell_f2 {a b t : List Nat} (h : b.isSuffixOf t = false) : Value.bool false = .bool (ellB a b t) := by simp [ellB, h]
theorem ell_f3 {a b t : List Nat} (h : (t.length : Int) < a.length + b.length) : Value.bool false = .bool (ellB a b t) := by
  have : ¬ a.length + b.length ≤ t.length := by omega
  simp [ellB, this]
theorem ell_t {a b t : List Nat} (h1 : a.isPrefixOf t = true) (h2 : b.isSuffixOf t = true) (h3 : (a.length : Int) + b.length ≤ t.length) : Value.bool true = .bool (ellB a b t) := by
  have : a.length + b.length ≤ t.length := by omega
  simp [ellB, this, h1, h2]
theorem pre_nil {a t : List Nat} (h : ¬ a ≠ []) : a.isPrefixOf t = true := by
  obtain rfl : a = [] := Classical.not_not.mp h
  simp
theorem suf_nil {a t : List Nat} (h : ¬ a ≠ []) : a.isSuffixOf t = true := by
  obtain rfl : a = [] := Classical.not_not.mp h
  simp
end
section
open PySem PySem.W PyProof.Rows
/-- one sign written in another way -/
noncomputable def rep (c : Nat) (z : List Nat) (x : List Nat) : List Nat := x.flatMap fun k => if k = c then z else [k]
theorem rep_free {c : Nat} {z x : List Nat} (h : c ∉ x) : rep c z x = x := by
  unfold rep
  induction x with
  | nil => rfl
  | cons a r ih =>
    have h1 : ¬ a = c := fun e => h (e ▸ List.mem_cons_self ..)
    rw [List.flatMap_cons, if_neg h1, ih fun m => h (List.mem_cons_of_mem _ m)]; rfl
theorem rep_len {c : Nat} {z x : List Nat} {N : Nat} (hz : z.length ≤ 6) (hx : x.length ≤ N) : (rep c z x).length ≤ 6 * N := by
  have : ∀ x : List Nat, (rep c z x).length ≤ 6 * x.length := by
    intro x
    unfold rep
    induction x with
    | nil => simp
    | cons a r ih =>
      rw [List.flatMap_cons, List.length_append, List.length_cons]
      split <;> (try simp only [List.length_cons, List.length_nil]) <;> omega
  have := this x
  omega
noncomputable abbrev escScope : Scope := { kind := .function, names := [(PySem.Str.ofString "text", .local), (PySem.Str.ofString "TypeError", .globalImplicit), (PySem.Str.ofString "AttributeError", .globalImplicit), (PySem.Str.ofString "_raise_serialization_error", .globalImplicit)], isGenerator := false, isCoroutine := false, more := [] }
section
variable {prog : Program} {w : World} {A : Around} {E : Value → Shared → Prop} {s : Shared} {g : Heap} {nm : PySem.Str} {L a : Addr} {cd : Value} {m : PySem.Str → Option Value} {x : List Nat} {t : Tok} {news : List (Addr × Obj)} {Q : Flow → Shared → Prop}
noncomputable abbrev Xt : PySem.Str := PySem.Str.ofString "text"
theorem r_escIf {c0 : Nat} {z0 : List Nat} {c z : PySem.Str} {k1 k2 k3 : Nat} {p1 p2 p3 p4 p5 p6 p7 p8 p9 p10 p11 : Pos} (hc : c = S [c0]) (hz : z = S z0) (hne : z0 ≠ [c0]) (hz6 : z0.length ≤ 6) {N : Nat} (hx : x.length ≤ N) (hN : N ≤ 1048576)
    (F : Fr g L s.heap m) (NN : News g L s.heap news) (hm : m Xt = some (.str (S x) t))
    (h : ∀ h' t' k, (rep c0 z0 x).length ≤ 6 * N → Fr g L h' (fun y => if y = Xt then some (.str (S (rep c0 z0 x)) t') else m y) → News g L h' news → Q .next { s with heap := h', toks := k })
    {pl : Sem Bool} (he : eval (.Call (.Attribute (.Name (PySem.Str.ofString "text") p5) (PySem.Str.ofString "replace") p6) [.Constant (.str c) k2 p7, .Constant (.str z) k3 p8] [] p9) (envOf nm escScope L a cd) = (do
      let ov ← eval (.Name (PySem.Str.ofString "text") p5) (envOf nm escScope L a cd)
      standAt p6.atName
      let (f, first) ← holding [ov] (getMethod ov (PySem.Str.ofString "replace") pl)
      callWith p9 f first (backTo p9 (starEach [.Constant (.str c) k2 p7, .Constant (.str z) k3 p8] (envOf nm escScope L a cd))) []) := by rfl) :
    wpAny (model prog w) A (exec (.If (.Compare (.Constant (.str c) k1 p1) [.In] [.Name (PySem.Str.ofString "text") p2] p3) [.Assign [.Name (PySem.Str.ofString "text") p4] (.Call (.Attribute (.Name (PySem.Str.ofString "text") p5) (PySem.Str.ofString "replace") p6) [.Constant (.str c) k2 p7, .Constant (.str z) k3 p8] [] p9) p10] [] p11) (envOf nm escScope L a cd)) Q E s := by
  subst hc hz
  have ldx : ∀ {s' : Shared} {pos : Pos} {Q' : Value → Shared → Prop}, s'.heap = s.heap → Q' (.str (S x) t) s' → wpAny (model prog w) A (eval (.Name (PySem.Str.ofString "text") pos) (envOf nm escScope L a cd)) Q' E s' := fun {s'} _ _ e q => ld (s := s') (by rw [e]; exact F) hm q
  refine wpAny_If (wpAny_isTrue_Compare1 (Calls.Constant_str (ldx rfl (SB.contains ?_))))
  rw [S_contains1]
  refine wpAny_truthy_bool ?_
  by_cases hin : c0 ∈ x
  · rw [decide_eq_true hin, if_pos rfl]
    refine wpAny_execs_cons (wpAny_Assign_Name (MethodCall_ (ldx rfl (GM.replace ?_)) he))
    refine callWith_method1 (Calls.spliced_cons (Calls.Constant_str (k := k2) (pos := p7) (Calls.spliced_cons (Calls.Constant_str (k := k3) (pos := p8) (Calls.spliced_nil ?_)))))
    refine SC.replaceW (by show s.toks + 1 ≠ 0; omega) (by show s.toks + 1 + 1 ≠ 0; omega) (by show s.toks + 1 ≠ s.toks + 1 + 1; omega) ?_ (by rw [S_len]; omega) (by rw [S_len]; omega) ?_
    · rw [S_beq]
      cases hq : ([c0] == z0) with
      | false => rfl
      | true => exact absurd (eq_of_beq hq).symm hne
    · intro t' k
      rw [S_replace]
      refine stN (s := { s with toks := k }) F NN fun h' F' N' => ?_
      dsimp only
      exact wpAny_execs_nil (h h' t' _ (rep_len hz6 hx) F' N')
  · rw [decide_eq_false hin, if_neg Bool.false_ne_true]
    refine wpAny_execs_nil ?_
    have e : rep c0 z0 x = x := rep_free hin
    have := h s.heap t (s.toks + 1) (rep_len hz6 hx) (by
      rw [e]
      have e2 : (fun y => if y = Xt then some (Value.str (S x) t) else m y) = m := by
        funext y
        by_cases hy : y = Xt
        · rw [if_pos hy, hy, hm]
        · rw [if_neg hy]
      rw [e2]; exact F) NN
    exact this
end
noncomputable def eAmp : List Nat := [38, 97, 109, 112, 59]
noncomputable def eLt : List Nat := [38, 108, 116, 59]
noncomputable def eGt : List Nat := [38, 103, 116, 59]
noncomputable def eQuot : List Nat := [38, 113, 117, 111, 116, 59]
noncomputable def e13 : List Nat := [38, 35, 49, 51, 59]
noncomputable def e10 : List Nat := [38, 35, 49, 48, 59]
noncomputable def e09 : List Nat := [38, 35, 48, 57, 59]
noncomputable def exD : List Nat := [38, 35, 120, 68, 59]
noncomputable def exA : List Nat := [38, 35, 120, 65, 59]
noncomputable def ex9 : List Nat := [38, 35, 120, 57, 59]
noncomputable def wr0 (x : List Nat) : List Nat := rep 62 eGt (rep 60 eLt (rep 38 eAmp x))
noncomputable def wr1 (x : List Nat) : List Nat := rep 9 e09 (rep 10 e10 (rep 13 e13 (rep 34 eQuot (rep 62 eGt (rep 60 eLt (rep 38 eAmp x))))))
noncomputable def wr2 (x : List Nat) : List Nat := rep 34 eQuot (rep 62 eGt (rep 38 eAmp x))
noncomputable def wr3 (x : List Nat) : List Nat := rep 13 exD (rep 62 eGt (rep 60 eLt (rep 38 eAmp x)))
noncomputable def wr4 (x : List Nat) : List Nat := rep 13 exD (rep 10 exA (rep 9 ex9 (rep 34 eQuot (rep 60 eLt (rep 38 eAmp x)))))
end
section
open PySem PySem.W PyProof.Rows PySem.Calls
section
variable {prog : Program} {w : World} {A : Around} {E : Value → Shared → Prop} {s : Shared} {env : Env} {h₀ : Heap} {x : PySem.Str} {body : List Stmt} {Q : Flow → Shared → Prop}
theorem unrPost_mono {L I : Addr} {it : Obj} {R R' : (PySem.Str → Option Value) → List (Addr × Obj) → Prop} {s₁ : Shared} (h : ∀ m n, R m n → R' m n) (f : Flow) (s₂ : Shared) (p : UnrPost h₀ L s₁ I it R Q f s₂) : UnrPost h₀ L s₁ I it R' Q f s₂ := by
  have e : UnrEnd h₀ L s₁ I it R s₂ → UnrEnd h₀ L s₁ I it R' s₂ := fun ⟨h', tk, m', n', e, F, N, o, r⟩ => ⟨h', tk, m', n', e, F, N, o, h _ _ r⟩
  cases f with
  | ret v => exact p
  | brk => exact p
  | next => exact e p
  | cont => exact e p
theorem rangeRest_inv {I : Addr} {a : Int} {n : Nat} (J : Nat → (PySem.Str → Option Value) → List (Addr × Obj) → Prop)
    (turn : ∀ i m news t h tk, i < n → J i m news → Fr h₀ env.locals h (fun y => if y = x then some (.int (a + (i : Int)) t) else m y) →
      News h₀ env.locals h ((I, itR (a + ((i + 1 : Nat) : Int)) ((n : Int) - ((i + 1 : Nat) : Int))) :: news) →
      wpAny (model prog w) A (execs body env) (UnrPost h₀ env.locals { s with heap := h, toks := tk } I (itR (a + ((i + 1 : Nat) : Int)) ((n : Int) - ((i + 1 : Nat) : Int))) (J (i + 1)) Q) E { s with heap := h, toks := tk })
    (done : ∀ m news h tk, J n m news → Fr h₀ env.locals h m → News h₀ env.locals h news → Q .next { s with heap := h, toks := tk }) :
    ∀ (k i : Nat) m news, i + k = n → J i m news → RangeRest prog w A E h₀ env x body Q s I a n k i m news
  | 0, i, m, news, e, hj => RangeRest.zero fun h tk F N => done m news h tk ((show i = n by omega) ▸ hj) F N
  | k + 1, i, m, news, e, hj => RangeRest.succ fun t h tk F N =>
      wpAny_mono (turn i m news t h tk (by omega) hj F N) (fun f s₂ p => unrPost_mono (fun m' n' hj' => rangeRest_inv J turn done k (i + 1) m' n' (by omega) hj') f s₂ p) fun _ _ e => e
theorem iter_range {r : Addr} {a b : Int} {t₀ u₀ v₀ : Tok} {m₀ : PySem.Str → Option Value} {news : List (Addr × Obj)} (J : Nat → (PySem.Str → Option Value) → List (Addr × Obj) → Prop) (n : Nat)
    (hh : A.handled = none) (hr : IsRange s.heap r a b 1 t₀ u₀ v₀) (hsmall : Builtin.Range.small a b 1 = true) (hn : (b - a).toNat = n) (F : Fr h₀ env.locals s.heap m₀) (N : News h₀ env.locals s.heap news)
    (hj : J 0 m₀ news)
    (turn : ∀ I i m news t h tk, i < n → J i m news → Fr h₀ env.locals h (fun y => if y = x then some (.int (a + (i : Int)) t) else m y) →
      News h₀ env.locals h ((I, itR (a + ((i + 1 : Nat) : Int)) ((n : Int) - ((i + 1 : Nat) : Int))) :: news) →
      wpAny (model prog w) A (execs body env) (UnrPost h₀ env.locals { s with heap := h, toks := tk } I (itR (a + ((i + 1 : Nat) : Int)) ((n : Int) - ((i + 1 : Nat) : Int))) (J (i + 1)) Q) E { s with heap := h, toks := tk })
    (done : ∀ m news h tk, J n m news → Fr h₀ env.locals h m → News h₀ env.locals h news → Q .next { s with heap := h, toks := tk }) :
    wpAny (model prog w) A (pyIter (.ref r)) (fun it s₂ => LoopAtV prog w A h₀ env x body Q E it s₂) E s :=
  iter_rangeUnr (n := n) hh hr hsmall (by rw [rangeSize_nat, hn]) F N fun I _ => rangeRest_inv J (turn I) done n 0 m₀ news (by omega) hj
end
section
variable {prog : Program} {w : World} {A : Around} {E : Value → Shared → Prop} {s : Shared} {h₀ : Heap} {L : Addr} {m : PySem.Str → Option Value} {news : List (Addr × Obj)} {x y : PySem.Str} {t u v r : Tok} {Q : Value → Shared → Prop} {value slice : Expr}
theorem S_sliceTo' (t : List Nat) {j : Int} (h0 : 0 ≤ j) : Txt.slice (S t) none (some j) = S (t.take j.toNat) := by
  by_cases h : j ≤ t.length
  · exact S_sliceTo t h0 h
  · rw [slice_to_beyond (by rw [S_len]; omega), S_len, S_sliceTo t (by omega) (by omega), S_inj, List.take_of_length_le (by omega), List.take_of_length_le (by omega)]
theorem S_sliceFrom' (t : List Nat) {i : Int} (h0 : 0 ≤ i) : Txt.slice (S t) (some i) none = S (t.drop i.toNat) := by
  by_cases h : i ≤ t.length
  · exact S_sliceFrom t h0 h
  · rw [slice_from_beyond (by rw [S_len]; omega), List.drop_eq_nil_of_le (by omega)]; rfl
theorem r_sliceTo {z : List Nat} {j : Int} {uj : Tok} (F : Fr h₀ L s.heap m) (N : News h₀ L s.heap news) (h0 : 0 ≤ j) (hl : z.length ≤ 1000000) (h : ∀ h' t' k, Fr h₀ L h' m → News h₀ L h' news → Q (.str (S (z.take j.toNat)) t') { s with heap := h', toks := k })
    (hs : subscripted slice false (.str (S z) t) (.ref s.heap.objs.size) = operate [.ref s.heap.objs.size, .str (S z) t] (getItem (.str (S z) t) (.ref s.heap.objs.size)) := by with_unfolding_all rfl)
    (ht : ∀ r, letTemporaryGo value (.str (S z) t) r = pure () := by intro _; with_unfolding_all rfl) :
    wpAny (model prog w) A (subscriptTail value slice (.str (S z) t) (.ref s.heap.objs.size)) Q E { s with heap := s.heap.push { cls := .type "slice", data := .fields #[.none, .int j uj, .none] } } :=
  slice_strN_ns F N (fun h' t' k F' N' => by rw [S_sliceTo' z h0]; exact h h' t' k F' N') hs ht (by rw [S_len, sizeLine_eq]; omega)
theorem r_sliceFrom {z : List Nat} {i : Int} {ui : Tok} (F : Fr h₀ L s.heap m) (N : News h₀ L s.heap news) (h0 : 0 ≤ i) (hl : z.length ≤ 1000000) (h : ∀ h' t' k, Fr h₀ L h' m → News h₀ L h' news → Q (.str (S (z.drop i.toNat)) t') { s with heap := h', toks := k })
    (hs : subscripted slice false (.str (S z) t) (.ref s.heap.objs.size) = operate [.ref s.heap.objs.size, .str (S z) t] (getItem (.str (S z) t) (.ref s.heap.objs.size)) := by with_unfolding_all rfl)
    (ht : ∀ r, letTemporaryGo value (.str (S z) t) r = pure () := by intro _; with_unfolding_all rfl) :
    wpAny (model prog w) A (subscriptTail value slice (.str (S z) t) (.ref s.heap.objs.size)) Q E { s with heap := s.heap.push { cls := .type "slice", data := .fields #[.int i ui, .none, .none] } } :=
  slice_strN_sn F N (fun h' t' k F' N' => by rw [S_sliceFrom' z h0]; exact h h' t' k F' N') hs ht (by rw [S_len, sizeLine_eq]; omega)
theorem r_add {a b : List Nat} (hx : x = S a) (hy : y = S b) (hl : a.length + b.length ≤ 1000000) (h : ∀ t' k, Q (.str (S (a ++ b)) t') { s with toks := k }) : wpAny (model prog w) A (binaryOp .Add (.str x t) (.str y u)) Q E s := by
  subst hx hy
  exact SB.add (fun t' k => by rw [S_app]; exact h t' k) (by rw [S_len, S_len, sizeLine_eq]; omega)
end
theorem small_le {a b : Int} (h0 : -(2 ^ 62) < a) (h1 : b < 2 ^ 62) (h2 : a < 2 ^ 62) (h3 : -(2 ^ 62) < b) : Builtin.Range.small a b 1 = true := by
  have fit : ∀ x : Int, -(2 ^ 63) ≤ x → x < 2 ^ 63 → Builtin.Range.rangeFitsLong x = true := by
    intro x hx hy
    unfold Builtin.Range.rangeFitsLong
    simp only [Bool.and_eq_true, decide_eq_true_eq]
    omega
  unfold Builtin.Range.small
  rw [rangeSize_nat, fit a (by omega) (by omega), fit b (by omega) (by omega), fit 1 (by decide) (by decide), fit _ (by omega) (by omega), if_pos (by decide), fit _ (by omega) (by omega)]
  simp
/-- a stop on the way -/
noncomputable def Stop9 (P : Prop) : Prop := P
theorem stop9 {P : Prop} (h : Stop9 P) : P := h
theorem Stop9.go {P : Prop} (h : P) : Stop9 P := h
theorem lit_dots : PySem.Str.ofString "..." = S dots := by decide +kernel
theorem bool_or {v : Value} {b : Bool} (h : v = .bool b) : (b = true ∧ v = .bool true) ∨ (b = false ∧ v = .bool false) := by
  cases b with
  | true => exact .inl ⟨rfl, h⟩
  | false => exact .inr ⟨rfl, h⟩
noncomputable def lapB (t : List Nat) (s : Nat) : Bool := (t.drop (t.length - s) == t.take s)
noncomputable def lapsTo (t : List Nat) (i : Nat) : List Nat := ((List.range i).map (· + 1)).filter (lapB t)
noncomputable def lapsL (t : List Nat) : List Nat := lapsTo t t.length
noncomputable abbrev nI (l : List Nat) : List Int := l.map fun n : Nat => (n : Int)
theorem lapsTo_succ (t : List Nat) (i : Nat) : lapsTo t (i + 1) = lapsTo t i ++ (if lapB t (i + 1) then [i + 1] else []) := by
  unfold lapsTo
  rw [List.range_succ, List.map_append, List.filter_append]
  congr 1
  simp only [List.map_cons, List.map_nil, List.filter_cons, List.filter_nil]
theorem lap_ell1 {t : List Nat} {i : Nat} (hi : i < t.length) (h2 : 2 * (1 + (i : Int)) ≤ t.length) : ellB (List.drop ((t.length : Int) - (1 + (i : Int))).toNat t) (List.take (1 + (i : Int)).toNat t) t = lapB t (i + 1) := by
  have e1 : ((t.length : Int) - (1 + (i : Int))).toNat = t.length - (i + 1) := by omega
  have e2 : (1 + (i : Int)).toNat = i + 1 := by omega
  rw [e1, e2, Bool.eq_iff_iff]
  unfold ellB lapB
  simp only [Bool.and_eq_true, decide_eq_true_eq, beq_iff_eq, List.isPrefixOf_iff_prefix, List.isSuffixOf_iff_suffix]
  have hl : (t.drop (t.length - (i + 1))).length = i + 1 := by simp; omega
  constructor
  · rintro ⟨⟨h, _⟩, _⟩
    have := List.prefix_iff_eq_take.mp h
    rw [hl] at this; exact this
  · intro h
    refine ⟨⟨?_, ?_⟩, ?_⟩
    · rw [h]; exact List.take_prefix _ _
    · rw [← h]; exact List.drop_suffix _ _
    · simp; omega
theorem lap_ell2 {t : List Nat} {i : Nat} (hi : i < t.length) : ellB (List.drop ((t.length : Int) - (1 + (i : Int))).toNat t) [] t = lapB t (i + 1) := by
  have e1 : ((t.length : Int) - (1 + (i : Int))).toNat = t.length - (i + 1) := by omega
  rw [e1, Bool.eq_iff_iff]
  unfold ellB lapB
  simp only [Bool.and_eq_true, decide_eq_true_eq, beq_iff_eq, List.isPrefixOf_iff_prefix, List.isSuffixOf_iff_suffix]
  have hl : (t.drop (t.length - (i + 1))).length = i + 1 := by simp; omega
  constructor
  · rintro ⟨⟨h, _⟩, _⟩
    have := List.prefix_iff_eq_take.mp h
    rw [hl] at this; exact this
  · intro h
    refine ⟨⟨?_, List.nil_suffix⟩, ?_⟩
    · rw [h]; exact List.take_prefix _ _
    · simp
theorem lap_no {t : List Nat} {vs : List Value} {i : Nat} (hI : IntsAre vs (nI (lapsTo t i))) (h : lapB t (i + 1) = false) : IntsAre vs (nI (lapsTo t (i + 1))) := by
  rw [lapsTo_succ, h]
  simpa using hI
theorem ints_snoc {vs : List Value} {l : List Int} {n : Int} {t : Tok} (hI : IntsAre vs l) : IntsAre (vs ++ [.int n t]) (l ++ [n]) := by
  induction hI with
  | nil => exact .cons _ _ .nil
  | cons a b _ ih => exact .cons _ _ ih
theorem lap_yes {t : List Nat} {vs : List Value} {i : Nat} {tk : Tok} (hI : IntsAre vs (nI (lapsTo t i))) (h : lapB t (i + 1) = true) : IntsAre (vs ++ [.int (1 + (i : Int)) tk]) (nI (lapsTo t (i + 1))) := by
  rw [lapsTo_succ, h]
  have := ints_snoc (n := 1 + (i : Int)) (t := tk) hI
  have e : nI (lapsTo t i ++ (if true = true then [i + 1] else [])) = nI (lapsTo t i) ++ [1 + (i : Int)] := by
    simp [nI]; omega
  rw [e]; exact this
theorem size_ok {vs : List Value} {k : Nat} (h : vs.length ≤ k) (hk : k ≤ 1000000) : vs.toArray.size ≤ sizeLine := by
  rw [List.size_toArray, sizeLine_eq]; omega
theorem news_ne {h₀ h : Heap} {L a b : Addr} {o o' : Obj} {news : List (Addr × Obj)} (N : News h₀ L h news) (ha : (a, o) ∈ news) (hb : (b, o') ∈ news) (hc : o.cls ≠ o'.cls) : @Ne Nat a b := by
  intro e
  have e' : a = b := e
  subst e'
  have h1 := N.get ha
  rw [N.get hb] at h1
  cases h1
  exact hc rfl
theorem lap_yesP {t : List Nat} {vs : List Value} {i : Nat} {tk : Tok} (hI : IntsAre vs (nI (lapsTo t i))) (h : lapB t (i + 1) = true) : IntsAre (vs.toArray.push (.int (1 + (i : Int)) tk)).toList (nI (lapsTo t (i + 1))) := by
  have e : (vs.toArray.push (.int (1 + (i : Int)) tk)).toList = vs ++ [.int (1 + (i : Int)) tk] := by simp
  rw [e]; exact lap_yes hI h
end
section
open PySem PySem.W PyProof.Rows PySem.Calls
/-- one-sign texts -/
inductive CharsAre : List Value → List Nat → Prop
  | nil : CharsAre [] []
  | cons (c : Nat) (t : Tok) {vs : List Value} {l : List Nat} : CharsAre vs l → CharsAre (.str (S [c]) t :: vs) (c :: l)
theorem CharsAre.length {vs : List Value} {l : List Nat} (h : CharsAre vs l) : vs.length = l.length := by
  induction h with
  | nil => rfl
  | cons _ _ _ ih => simp [ih]
theorem CharsAre.append {vs ws : List Value} {l k : List Nat} (h : CharsAre vs l) (h' : CharsAre ws k) : CharsAre (vs ++ ws) (l ++ k) := by
  induction h with
  | nil => exact h'
  | cons c t _ ih => exact .cons c t ih
theorem CharsAre.reverse {vs : List Value} {l : List Nat} (h : CharsAre vs l) : CharsAre vs.reverse l.reverse := by
  induction h with
  | nil => exact .nil
  | cons c t _ ih => simpa using ih.append (.cons c t .nil)
theorem CharsAre.of_get : ∀ {l : List Nat} {vs : List Value}, vs.length = l.length → (∀ (i : Nat) (v : Value), vs[i]? = some v → ∃ (c : Nat) (u : Tok), l[i]? = some c ∧ v = Value.str (S [c]) u) → CharsAre vs l
  | [], [], _, _ => .nil
  | [], _ :: _, h, _ => by cases h
  | _ :: _, [], h, _ => by cases h
  | a :: l, v :: vs, h, hg => by
    obtain ⟨c, u, h1, rfl⟩ := hg 0 v rfl
    have e : c = a := by simpa using h1.symm
    subst e
    exact .cons c u (CharsAre.of_get (by simpa using h) fun i w hi => hg (i + 1) w (by simpa using hi))
section
variable {prog : Program} {w : World} {A : Around} {E : Value → Shared → Prop} {s : Shared} {h₀ : Heap} {L : Addr} {m : PySem.Str → Option Value} {news : List (Addr × Obj)} {t : Tok} {Q : Value → Shared → Prop}
theorem r_listStr {l : List Nat} (hh : A.handled = none) (F : Fr h₀ L s.heap m) (N : News h₀ L s.heap news) (hl : l.length ≤ 1000000)
    (h : ∀ D c vs h' tk, Fr h₀ L h' m → News h₀ L h' ((D, listOf vs.toArray c) :: news) → (∀ p ∈ news, p.1 < D) → CharsAre vs l → Q (.ref D) { s with heap := h', toks := tk }) :
    wpAny (model prog w) A (call (.type "list") [.str (S l) t]) Q E s := by
  refine call_list_str hh (S l) t (hn := by rw [S_size, sizeLine_eq]; omega) fun h' tk acc' c' hk hS' hacc => ?_
  have hD : h₀.get? s.heap.objs.size = none := by
    cases e : h₀.get? s.heap.objs.size with
    | none => rfl
    | some o => exact absurd (Heap.lt_size (F.keep _ _ e)) (Nat.lt_irrefl _)
  refine h s.heap.objs.size c' acc'.toList h' tk (F.keeps hk) (fun p hp => ?_) (fun p hp => Heap.lt_size (N p hp).1) ?_
  · rcases List.mem_cons.mp hp with rfl | hp
    · exact ⟨by simpa [W.listOf] using hS', Nat.ne_of_gt F.ns.lt, hD⟩
    · exact ⟨hk _ _ (N p hp).1, (N p hp).2⟩
  · refine CharsAre.of_get (by simpa using hacc.1) fun i v hi => ?_
    obtain ⟨c, u, h1, rfl⟩ := hacc.2 i v (by simpa using hi)
    exact ⟨c, u, by simpa [S] using h1, rfl⟩
end
/-- what stood stands, but for these -/
noncomputable abbrev KeptBut (adr : List Addr) (h h' : Heap) : Prop := ∀ b o, h.get? b = some o → b ∉ adr → h'.get? b = some o
noncomputable abbrev MCon (cT pT : Addr) (n : Nat) (prog : Program) (w : World) (K : Frag) (p : Program) (loose : List PySem.Str) (mean : ExcName → Option Value) (mg mb : PySem.Str → Option Value) (f : Addr) (vs : List Value) (pre : List (Addr × Obj)) (R : Value → List (Addr × Obj) → Prop) : Prop :=
  ∀ (dp un : Nat) (gd : Option (List Code)) (cn : PySem.Str) (cs : Scope) (a : Addr) (ccd : Value) (cl : List (PySem.Str × Addr)) (outer : List Env) (A₀ : Around) (base h₀ : Heap) (L : Addr) (m : PySem.Str → Option Value) (s : Shared) (Q E : Value → Shared → Prop),
    Below A₀ base outer h₀ → Fr h₀ L s.heap m → K.In h₀ → Top p loose mean mg mb h₀ → cs.kind = .function → dp + n < recursionLimit → un + 16 * n < cLine → CodeHd base cT pT → News h₀ L s.heap pre →
    (∀ (v : Value) (post : List (Addr × Obj)) (h' : Heap) (tk' : Nat), Fr h₀ L h' m → News h₀ L h' post → KeptBut (pre.map (·.1)) s.heap h' → R v post → Q v { s with heap := h', toks := tk' }) →
    codeAny (model prog w) (ktrTop dp un gd cn cs L a ccd cl outer) (.call (.ref f) ⟨vs, []⟩) (fun r s' => match r with | .ok (.ret v) => Q v s' | .ok _ => False | .error e => E e s') s
theorem mc_kept {h g h' : Heap} {L' : Addr} {m' : PySem.Str → Option Value} {adr : List Addr} (G : GSub h g adr) (F : Fr g L' h' m') : KeptBut adr h h' := fun b o e n => F.keep b o (G b o e n)
set_option genInjectivity false in
set_option genSizeOf false in
structure RP where
  aP : Addr
  aR : Addr
  dR : Addr
  aF : Addr
  cF : Addr
  aP2 : Addr
  aS : Addr
  dS : Addr
  aL : Addr
  aC : Addr
  t1 : Tok
  t2 : Tok
  t3 : Tok
  t4 : Tok
  t5 : Tok
  s0 : Tok
  s1 : Tok
  s2 : Tok
  s3 : Tok
  s4 : Tok
  s5 : Tok
  s6 : Tok
  oc : Obj
  oC : Obj
  vs : Array Value
  qt : Tok
  q : PySem.Str
  pm : Value
  ctv : Value
set_option genInjectivity false in
set_option genSizeOf false in
structure RP.Ok (r : RP) : Prop where
  d1 : r.oc.data = .fields r.vs
  d2 : r.vs[1]? = some (.str r.q r.qt)
  d3 : r.oC.data = .cell (some (.ref r.aL))
  o1 : @LT.lt Nat _ r.aC r.aL
  o2 : @LT.lt Nat _ r.aL r.dS
  o3 : @LT.lt Nat _ r.dS r.aS
  o4 : @LT.lt Nat _ r.aS r.aP2
  o5 : @LT.lt Nat _ r.aP2 r.cF
  o6 : @LT.lt Nat _ r.cF r.aF
  o7 : @LT.lt Nat _ r.aF r.dR
  o8 : @LT.lt Nat _ r.dR r.aR
  o9 : @LT.lt Nat _ r.aR r.aP
noncomputable abbrev ent (P : Params) (k : String) (t : Tok) (v : Value) : DictEntry := { hash := PyData.keyHash P (PySem.Str.ofString k), key := .str (PySem.Str.ofString k) t, val := v }
noncomputable abbrev wsT : PySem.Str := PySem.Str.ofString "\n\t\r "
noncomputable abbrev lamArgs (line : Nat) : Arguments := { posonlyargs := [], args := [{ arg := PySem.Str.ofString "count", annotation := none, pos := ⟨line, 25, line, 30⟩ : PySem.Arg }], vararg := none, kwonlyargs := [], kw_defaults := [], kwarg := none, defaults := [] }
noncomputable abbrev lamBody (l : Nat) : Expr := .IfExp (.Compare (.Name (PySem.Str.ofString "left") ⟨l, 46, l, 50⟩) [.NotEq] [.List [] ⟨l, 54, l, 56⟩] ⟨l, 46, l, 56⟩) (.Call (.Attribute (.Name (PySem.Str.ofString "left") ⟨l, 32, l, 36⟩) (PySem.Str.ofString "pop") ⟨l, 32, l, 40⟩) [] [] ⟨l, 32, l, 42⟩) (.Constant (.str (PySem.Str.ofString "")) 0 ⟨l, 62, l, 64⟩) ⟨l, 32, l, 64⟩
noncomputable abbrev lamScope : Scope := { kind := .function, names := [(PySem.Str.ofString "count", .local), (PySem.Str.ofString "left", .free)], isGenerator := false, isCoroutine := false, more := [] }
/-- the reader's objects -/
noncomputable def rdr7 (l : Nat) (P : Params) (r : RP) (lf : List Value) (kl : Nat) : List (Addr × Obj) :=
  [(r.aF, kla_obj (PySem.Str.ofString "<lambda>") r.q (lamArgs l) (lamBody l) lamScope [(PySem.Str.ofString "left", r.aC)] r.pm r.cF r.ctv),
   (r.cF, r.oc), (r.aP2, listOf #[] 0), (r.aS, instObj 59 r.dS),
   (r.dS, dictOf [ent P "lineno" r.s1 (.int 1 r.s0), ent P "instream" r.s2 .none, ent P "whitespace" r.s3 (.str wsT r.s4), ent P "pushback" r.s5 (.ref r.aP2), ent P "read" r.s6 (.ref r.aF)] 5),
   (r.aL, listOf lf.toArray kl), (r.aC, r.oC)]
noncomputable abbrev rdr (l : Nat) (P : Params) (r : RP) (ln : Int) (tl : Tok) (pb : List Value) (kp : Nat) (lf : List Value) (kl : Nat) : List (Addr × Obj) :=
  (r.aP, listOf pb.toArray kp) :: (r.aR, instObj 59 r.dR) ::
   (r.dR, dictOf [ent P "lineno" r.t1 (.int ln tl), ent P "instream" r.t2 (.ref r.aS), ent P "whitespace" r.t3 (.str wsT r.t4), ent P "pushback" r.t5 (.ref r.aP)] 4) :: rdr7 l P r lf kl
end
section
open PySem PySem.W PyProof.Rows PySem.Calls
theorem lit_empty : PySem.Str.ofString "" = S [] := by rfl
/-- texts -/
inductive StrsAre : List Value → List (List Nat) → Prop
  | nil : StrsAre [] []
  | cons (x : List Nat) (t : Tok) {vs : List Value} {l : List (List Nat)} : StrsAre vs l → StrsAre (.str (S x) t :: vs) (x :: l)
theorem StrsAre.length {vs : List Value} {l : List (List Nat)} (h : StrsAre vs l) : vs.length = l.length := by
  induction h with
  | nil => rfl
  | cons _ _ _ ih => simp [ih]
theorem StrsAre.append {vs ws : List Value} {l k : List (List Nat)} (h : StrsAre vs l) (h' : StrsAre ws k) : StrsAre (vs ++ ws) (l ++ k) := by
  induction h with
  | nil => exact h'
  | cons c t _ ih => exact .cons c t ih
theorem CharsAre.strs {vs : List Value} {l : List Nat} (h : CharsAre vs l) : StrsAre vs (l.map fun c => [c]) := by
  induction h with
  | nil => exact .nil
  | cons c t _ ih => exact .cons [c] t ih
noncomputable abbrev Ok8 (ns : List (List Nat)) : Prop := ∀ x ∈ ns, x.all (· < 0x110000) = true
theorem ss_canLayAll0 : ∀ ns : List (List Nat), Ok8 ns → PyData.canLayAll0 (ns.map fun x => PyData.str (S x)) = true
  | [], _ => rfl
  | x :: r, h => by
    have h1 : PyData.strOk (S x) = true := by
      have := h x (.head _)
      simpa [PyData.strOk, S] using this
    simp [PyData.canLayAll0, PyData.canLay0, ss_canLayAll0 r fun y hy => h y (.tail _ hy), h1]
theorem ss_depthAll : ∀ ns : List (List Nat), PyData.depthAll (ns.map fun x => PyData.str (S x)) = 0
  | [] => rfl
  | _ :: r => by simp [PyData.depthAll, PyData.depth, ss_depthAll r]
theorem ss_shaped {ns : List (List Nat)} (h : Ok8 ns) : SeqAt.shaped (.list (ns.map fun x => PyData.str (S x))) = true := by
  simp [SeqAt.shaped, PyData.canLay0, PyData.depth, ss_canLayAll0 ns h, ss_depthAll]
theorem ss_sameAll : ∀ ns ms : List (List Nat), PySem.Spec.sameAll (ns.map fun x => PyData.str (S x)) (ms.map fun x => PyData.str (S x)) = decide (ns = ms)
  | [], [] => by simp [PySem.Spec.sameAll]
  | [], _ :: _ => by simp [PySem.Spec.sameAll]
  | _ :: _, [] => by simp [PySem.Spec.sameAll]
  | a :: r, b :: t => by
    simp only [List.map_cons, PySem.Spec.sameAll, PySem.Spec.same, ss_sameAll r t]
    by_cases h : a = b <;> by_cases h' : r = t <;> simp [h, h', S]
theorem ss_same (ns ms : List (List Nat)) : PySem.Spec.same (.list (ns.map fun x => PyData.str (S x))) (.list (ms.map fun x => PyData.str (S x))) = decide (ns = ms) := by
  simp only [PySem.Spec.same]; exact ss_sameAll ns ms
theorem ss_carried : ∀ {vs : List Value} {ns : List (List Nat)}, StrsAre vs ns → CarriedAll vs (ns.map fun x => PyData.str (S x))
  | _, _, .nil => .nil
  | _, _, .cons _ t r => .cons (.str _ t) (ss_carried r)
section
variable {prog : Program} {w : World} {A : Around} {E : Value → Shared → Prop} {s : Shared} {a b : Addr} {xs ys : List Value} {ns ms : List (List Nat)} {Q : Value → Shared → Prop}
theorem r_eq_strs (ha : s.heap.IsList a xs.toArray) (hb : s.heap.IsList b ys.toArray) (hi : StrsAre xs ns) (hj : StrsAre ys ms) (o1 : Ok8 ns) (o2 : Ok8 ms) (hu : A.units + 64 < cLine) (h : Q (.bool (decide (ns = ms))) s) :
    wpAny (model prog w) A (compareOp .Eq (.ref a) (.ref b)) Q E s :=
  eq_dataH_same (reads_newData ha (ss_carried hi)) (reads_newData hb (ss_carried hj)) (ss_shaped o1) (ss_shaped o2) hu (SeqAt.noMix_of_shape (.list .str) rfl _ _ (list_map_has fun _ => rfl) (list_map_has fun _ => rfl)) (by rw [ss_same]; exact h)
theorem r_ne_strs (ha : s.heap.IsList a xs.toArray) (hb : s.heap.IsList b ys.toArray) (hi : StrsAre xs ns) (hj : StrsAre ys ms) (o1 : Ok8 ns) (o2 : Ok8 ms) (hu : A.units + 64 < cLine) (h : Q (.bool (!decide (ns = ms))) s) :
    wpAny (model prog w) A (compareOp .NotEq (.ref a) (.ref b)) Q E s :=
  ne_dataH_same (reads_newData ha (ss_carried hi)) (reads_newData hb (ss_carried hj)) (ss_shaped o1) (ss_shaped o2) hu (SeqAt.noMix_of_shape (.list .str) rfl _ _ (list_map_has fun _ => rfl) (list_map_has fun _ => rfl)) (by rw [ss_same]; exact h)
theorem kr_pop {s : Shared} {h₀ : Heap} {L D : Addr} {m : PySem.Str → Option Value} {news news' : List (Addr × Obj)} {n : Nat} {us : List Value} {y : Value} {Q : Value → Shared → Prop} (F : Fr h₀ L s.heap m) (N : News h₀ L s.heap news) (U : Upd D (listOf (us ++ [y]).toArray n) (listOf us.toArray (n + 1)) news news')
    (hz : us.length + 1 ≤ sizeLine) (h : ∀ h', Fr h₀ L h' m → News h₀ L h' news' → Q y { s with heap := h' }) : wpAny (model prog w) A (call (.builtin "list.pop") [.ref D]) Q E s :=
  kl_pop F N (p := us) (y := y) (by simpa using kpa_last y us) U (by simpa using hz) h
end
end
section
open PySem PySem.W PyProof.Rows PySem.Calls
noncomputable abbrev citObj (f v : Value) (b : Bool) : Obj := { cls := .type "callable_iterator", data := .fields #[f, v, .bool b] }
theorem slot_cit : Slot "callable_iterator" "__next__" "callable_iterator.__next__" :=
  .of (owner := "callable_iterator") (n := "__next__") (by rw [typeLookup_type, builtinLookup_eq_fast]; kernel_rfl) (by decide +kernel) (by decide +kernel) (by decide +kernel)
    (by first | exact .inl (by decide +kernel) | exact .inr (by decide +kernel)) (by rw [isSubtype_type]; kernel_rfl)
theorem entry_cit : entryFor table "callable_iterator.__next__" = some Builtin.«callable_iterator.__next__» := by first | exact entryFor_of_fast (by kernel_rfl) | exact entryFor_of_tree (by kernel_rfl)
theorem args_cit (a : Value) : argsOk "callable_iterator.__next__" ⟨[a], []⟩ := by unfold argsOk; kernel_rfl
theorem slot_cit_iter : Slot "callable_iterator" "__iter__" "callable_iterator.__iter__" :=
  .of (owner := "callable_iterator") (n := "__iter__") (by rw [typeLookup_type, builtinLookup_eq_fast]; kernel_rfl) (by decide +kernel) (by decide +kernel) (by decide +kernel)
    (by first | exact .inl (by decide +kernel) | exact .inr (by decide +kernel)) (by rw [isSubtype_type]; kernel_rfl)
theorem args_iter2 (a b : Value) : argsOk "iter" ⟨[a, b], []⟩ := by unfold argsOk; kernel_rfl
theorem meth_call_look : typeLookup (.type "method") "__call__" = pure (some (.builtin "method.__call__")) := by rw [typeLookup_type, builtinLookup_eq_fast]; kernel_rfl
theorem entry_cit_iter : entryFor table "callable_iterator.__iter__" = some Builtin.«dict_keyiterator.__iter__» :=
  entryFor_alias (id' := "dict_keyiterator.__iter__") (by first | kernel_rfl | (rw [fastTable_eq_tree]; kernel_rfl)) (by first | rfl | decide +kernel) (by decide +kernel) (by first | kernel_rfl | (rw [fastTable_eq_tree]; kernel_rfl))
theorem args_cit_iter (a : Value) : argsOk "callable_iterator.__iter__" ⟨[a], []⟩ := by unfold argsOk; kernel_rfl
theorem callBorrowed_eq (f : Value) (pos : List Value) : callBorrowed f pos = (call f pos).keep [borrowed] := by
  unfold callBorrowed call runValue
  congr 1
  funext r
  rcases r with e | (_ | _ | _ | _) <;> rfl
section
variable {prog : Program} {w : World} {A : Around} {E : Value → Shared → Prop} {s : Shared} {h₀ : Heap} {L : Addr} {m : PySem.Str → Option Value} {news : List (Addr × Obj)}
theorem r_iter2 {q : Addr} {f self v : Value} {Q : Value → Shared → Prop} (F : Fr h₀ L s.heap m) (N : News h₀ L s.heap news) (hq : (q, methodObj f self) ∈ news)
    (h : ∀ (D : Addr) (h' : Heap), Fr h₀ L h' m → News h₀ L h' ((D, citObj (.ref q) v false) :: news) → (∀ p ∈ news, p.1 < D) → Q (.ref D) { s with heap := h' }) :
    wpAny (model prog w) A (call (.builtin "iter") [.ref q, v]) Q E s := by
  refine call_function_entry (by decide +kernel) (by decide +kernel) kdk_entry_iter (args_iter2 _ _) ?_
  unfold Builtin.«iter»
  refine wpAny_bind (m := someArgs "iter" 1 2 _) (wpAny_of_eq (a := [Value.ref q, v]) (by first | rfl | kernel_rfl!) ?_)
  have hT : s.TypeIs (.ref q) "method" := ⟨_, (N _ hq).1, rfl⟩
  dsimp only
  refine wpAny_bind (wpAny_specialOf hT meth_call_look ?_)
  refine wpAny_bind (wpAny_rule ?_)
  refine wpAny_bind ?_
  exact wpAny_newObj_type (wpAny_pure ⟨_, rfl, h _ _ (F.push _) (News.push F N _ rfl) (fun q hq => Heap.lt_size (N q hq).1)⟩) (by size_fits)

theorem borrows_meth {q f : Addr} {self : Value} {B : Around} {E' : Value → Shared → Prop} {s : Shared} {Q : Bool → Shared → Prop} (Nq : s.heap.get? q = some (methodObj (.ref f) self)) (hf : ∃ o fd, s.heap.get? f = some o ∧ o.data = .func fd) (h : Q true s) :
    wpAny (model prog w) B (borrowsExactly (.ref q)) Q E' s := by
  obtain ⟨o, fd, e1, e2⟩ := hf
  unfold borrowsExactly
  refine wpAny_bind (wpAny_load Nq ?_)
  show wpAny _ _ (if (Value.type "method" == Value.type "method") = true then _ else _) _ _ _
  rw [if_pos (by decide)]
  show wpAny _ _ (load f >>= _) _ _ _
  refine wpAny_bind (wpAny_load e1 ?_)
  rw [e2]
  exact wpAny_pure h
theorem r_citNext {D q f : Addr} {self : Value} {tv : Tok} {Q : Option Value → Shared → Prop} (hh : A.handled = none) (ND : s.heap.get? D = some (citObj (.ref q) (.str (S []) tv) false)) (Nq : s.heap.get? q = some (methodObj (.ref f) self))
    (hf : ∃ o fd, s.heap.get? f = some o ∧ o.data = .func fd)
    (hc : ∀ E', wpAny (model prog w) A.in1 (call (.ref q) []) (fun v s₁ => ∃ x t, v = .str (S x) t ∧ s₁.heap.get? D = some (citObj (.ref q) (.str (S []) tv) false) ∧ s₁.heap.get? q = some (methodObj (.ref f) self) ∧ (∃ o fd, s₁.heap.get? f = some o ∧ o.data = .func fd) ∧
      (x ≠ [] → Q (some v) s₁) ∧ (x = [] → ∀ h', Heap.ExtBut D s₁.heap h' → Q none { s₁ with heap := h' })) E' s) :
    wpAny (model prog w) A (pyNext (.ref D)) Q E s := by
  have hT : s.TypeIs (.ref D) "callable_iterator" := ⟨_, ND, rfl⟩
  unfold pyNext
  refine wpAny_bind (wpAny_attempt (wpAny_callSpecial?_slot (name := Str.ofString "__next__") hT slot_cit
    (wpAny_call_entry slot_cit hT entry_cit ?_ (args_cit _))))
  show wpAny _ _ (field (.ref D) 2 >>= _) _ _ s
  refine wpAny_bind (wpAny_field ND rfl (x := .bool false) rfl ?_)
  show wpAny _ _ (field (.ref D) 0 >>= _) _ _ s
  refine wpAny_bind (wpAny_field ND rfl (x := .ref q) rfl ?_)
  refine wpAny_bind (wpAny_attempt ?_)
  unfold callOutOfASlot
  refine wpAny_bind (borrows_meth Nq hf ?_)
  rw [if_pos rfl, callBorrowed_eq]
  refine Calls.wpAny_keep (wpAny_mono (hc _) (fun v s₁ h₁ => ?_) fun _ _ x => x)
  obtain ⟨x, t, rfl, ND', Nq', hf', hx, hx0⟩ := h₁
  dsimp only
  refine wpAny_bind (wpAny_field ND' rfl (x := .bool false) rfl ?_)
  show wpAny _ _ (field (.ref D) 1 >>= _) _ _ s₁
  refine wpAny_bind (wpAny_field ND' rfl (x := .str (S []) tv) rfl ?_)
  refine wpAny_bind (wpAny_holding (eqBool_str ?_))
  by_cases e : x = []
  · subst e
    rw [show (S [] == S []) = true by simp]
    refine wpAny_bind (wpAny_rule (wpAny_bind ?_))
    show wpAny _ _ (field (.ref D) 0 >>= _) _ _ s₁
    refine wpAny_bind (wpAny_field ND' rfl (x := .ref q) rfl ?_)
    refine wpAny_bind ?_
    unfold slotLetsGo
    show wpAny _ _ (borrowsExactly (.ref q) >>= _) _ _ s₁
    refine wpAny_bind (borrows_meth Nq' hf' ?_)
    rw [if_pos rfl]
    refine wpAny_pure ?_
    refine wpAny_bind (wpAny_setField_rec ND' (by simp) fun h₁ e₁ k₁ => ?_)
    refine wpAny_bind (wpAny_setField_rec (s := { s₁ with heap := h₁ }) e₁ (by simp) fun h₂ e₂ k₂ => ?_)
    refine wpAny_setField_rec (s := { s₁ with heap := h₂ }) e₂ (by simp) fun h₃ e₃ k₃ => ?_
    have k : Heap.SameBut D s₁.heap h₃ := (k₁.trans k₂).trans k₃
    show wpAny _ _ (newExc (.type "StopIteration") [] >>= _) _ _ _
    refine wpAny_bind ?_
    simp only [newExc, newTuple]
    refine wpAny_bind (wpAny_newObj_type ?_ (by size_fits))
    refine wpAny_bind (m := firstArgMember _ _) (wpAny_of_eq (a := Value.none) (by first | rfl | (simp only [firstArgMember]; rfl)) ?_)
    refine wpAny_newObj_type ?_ (by size_fits)
    simp only [raiseNew]
    refine wpAny_bind (wpAny_handled ?_)
    rw [show A.in1.handled = none from hh]
    refine wpAny_bind (wpAny_pure (wpAny_throw ?_))
    refine wpAny_bind (wpAny_isInstance (T := "StopIteration") (b := true) ⟨_, Heap.get?_push_size _ rfl, rfl⟩ isSubtype_stop ?_)
    exact wpAny_pure (hx0 rfl _ ((k.extBut.push _).push _))
  · have e' : (S [] == S x) = false := by rw [S_beq]; cases x with | nil => exact absurd rfl e | cons _ _ => rfl
    rw [e']
    exact wpAny_pure ⟨_, rfl, wpAny_pure (hx e)⟩
end
end
section
open PySem PySem.W PyProof.Rows PySem.Calls
section
variable {prog : Program} {w : World} {A : Around} {E : Value → Shared → Prop} {s : Shared} {h₀ : Heap} {L : Addr} {m : PySem.Str → Option Value} {news : List (Addr × Obj)}
theorem r_citIter {D : Addr} {f v : Value} {b : Bool} {Q : Value → Shared → Prop} (ND : s.heap.get? D = some (citObj f v b)) (h : Q (.ref D) s) : wpAny (model prog w) A (pyIter (.ref D)) Q E s := by
  have hT : s.TypeIs (.ref D) "callable_iterator" := ⟨_, ND, rfl⟩
  refine wpAny_pyIter_slot hT slot_cit_iter (wpAny_call_entry slot_cit_iter hT entry_cit_iter ?_ (args_cit_iter _))
  exact wpAny_pure ⟨_, rfl, "callable_iterator", _, hT, slot_cit.lookup, h⟩
/-- the loop goes on -/
noncomputable def Again (I : Nat → Shared → Prop) (n : Nat) (s : Shared) : Prop := ∃ k, k < n ∧ I k s
noncomputable def TurnK (prog : Program) (w : World) (A : Around) (env : Env) (h₀ : Heap) (x : PySem.Str) (body : List Stmt) (Q : Flow → Shared → Prop) (E : Value → Shared → Prop) (I : Nat → Shared → Prop) (n : Nat) (r : Option Value) (s₁ : Shared) : Prop :=
  match r with
  | none => Q .next s₁
  | some v => ∃ m, Fr h₀ env.locals s₁.heap m ∧ ∀ h₂, Fr h₀ env.locals h₂ (fun y => if y = x then some v else m y) → (∀ news, News h₀ env.locals s₁.heap news → News h₀ env.locals h₂ news) →
      wpAny (model prog w) A (execs body env) (fun f s₃ => match f with | .next | .cont => Again I n s₃ | .brk => Q .next s₃ | .ret v => Q (.ret v) s₃) E { s₁ with heap := h₂, toks := s₁.toks + 1 }
noncomputable def LoopOwn (prog : Program) (w : World) (A : Around) (env : Env) (h₀ : Heap) (x : PySem.Str) (body : List Stmt) (Q : Flow → Shared → Prop) (E : Value → Shared → Prop) (it : Value) (s₂ : Shared) : Prop :=
  ∃ (I : Nat → Shared → Prop) (n : Nat), I n s₂ ∧ ∀ n s, I n s → wpAny (model prog w) A (pyNext it) (TurnK prog w A env h₀ x body Q E I n) E s
theorem For_own {env : Env} {Q : Flow → Shared → Prop} {x : PySem.Str} {px pos : Pos} {iter : Expr} {body : List Stmt} (_F : Fr h₀ env.locals s.heap m) (hx : env.kindOf x = some .local)
    (hp : (env.scope.kind == .class || (env.scope.kind == .module && env.locals != env.globals)) = false)
    (h : wpAny (model prog w) A (eval iter env) (fun xv s₁ => wpAny (model prog w) A (pyIter xv) (fun it s₂ => LoopOwn prog w A env h₀ x body Q E it s₂) E s₁) E s)
    (hs : ∀ x, foldedSetIterable iter env x = pure x := by intro _; rfl)
    (hE : PassesOwn (model prog w) A env E := by passes_own) :
    wpAny (model prog w) A (exec (.For (.Name x px) iter body [] pos) env) Q E s := by
  refine wpAny_For (wpAny_mono h (fun xv s₁ h₁ => wpAny_mono h₁ (fun it s₂ h₂ => ?_) fun _ _ e => e) fun _ _ e => e) hs
  obtain ⟨I, n, hI, turn⟩ := h₂
  refine codeAny_forLoop (R := fun r s' => match r with | .ok f => Q f s' | .error e => cameBackBy (model prog w) A env E e s') I (fun n s hI => ?_) n hI
  refine wpAny_mono (wpAny_passesOwn hE (turn n s hI)) (fun r s₁ h₁ => ?_) fun _ _ e => e
  cases r with
  | none => exact wpAny_execs_nil h₁
  | some v =>
    obtain ⟨m, F, hb⟩ := h₁
    refine wpAny_assign_Name (wpAny_storeName_local hx F.ns (fun h₂ hn₂ hs₂ => ?_) hp)
    refine wpAny_mono (wpAny_passesOwn hE (hb h₂ (F.set hn₂ hs₂) fun news N => N.set hs₂)) (fun f s₃ h₃ => ?_) fun _ _ e => e
    cases f <;> exact h₃
theorem fr_butD {h h' : Heap} {D : Addr} (F : Fr h₀ L h m) (hL : D ≠ L) (h0 : h₀.get? D = none) (e : Heap.ExtBut D h h') : Fr h₀ L h' m :=
  ⟨F.ns.at' fun o e' => e _ o (fun q => hL q.symm) e', fun b o e' => e b o (fun q => by rw [q, h0] at e'; cases e') (F.keep b o e'), F.above⟩
theorem news_butD {h h' : Heap} {D : Addr} (N : News h₀ L h news) (hD : ∀ p ∈ news, p.1 ≠ D) (e : Heap.ExtBut D h h') : News h₀ L h' news :=
  fun p hp => ⟨e _ _ (hD p hp) (N p hp).1, (N p hp).2⟩
theorem news_kept {h h' : Heap} {own : List (Addr × Obj)} {adr : List Addr} (N : News h₀ L h own) (hD : ∀ p ∈ own, p.1 ∉ adr) (e : KeptBut adr h h') : News h₀ L h' own :=
  fun p hp => ⟨e _ _ (N p hp).1 (hD p hp), (N p hp).2⟩
theorem chars_snoc {lf : List Value} {c : Nat} {st : List Nat} (h : CharsAre lf (c :: st).reverse) : ∃ us tc, lf = us ++ [.str (S [c]) tc] ∧ CharsAre us st.reverse := by
  rw [List.reverse_cons] at h
  generalize st.reverse = l at h
  induction l generalizing lf with
  | nil =>
    cases h with
    | cons c t h => cases h; exact ⟨[], t, rfl, .nil⟩
  | cons a l ih =>
    cases h with
    | cons c t h =>
      obtain ⟨us, tc, rfl, hu⟩ := ih h
      exact ⟨_ :: us, tc, rfl, .cons _ t hu⟩
theorem ldnX_L {M : Model} {cn : PySem.Str} {cs : Scope} {a : Addr} {ccd : Value} {cl : List (PySem.Str × Addr)} {x : PySem.Str} {v : Value} {Q : Value → Shared → Prop} (F : Fr h₀ L s.heap m) (hv : m x = some v) (h : Q v s)
    (hk : cs.kind = .function := by rfl) (hx : (envX cn cs L a ccd cl).kindOf x = some .local := by rfl) : wpAny M A (loadName (envX cn cs L a ccd cl) x) Q E s := wpAny_loadName_local hk hx F.ns hv h
theorem r_iadd {x y : PySem.Str} {t u : Tok} {a b : List Nat} {Q : Value → Shared → Prop} (hx : x = S a) (hy : y = S b) (hl : a.length + b.length ≤ 1000000) (h : ∀ t' k, Q (.str (S (a ++ b)) t') { s with toks := k }) : wpAny (model prog w) A (inplaceOp .Add (.str x t) (.str y u)) Q E s := by
  subst hx hy
  exact SB.iadd (fun t' k => by rw [S_app]; exact h t' k) (by rw [S_len, S_len, sizeLine_eq]; omega)
noncomputable def isWs (c : Nat) : Bool := c == 10 || c == 9 || c == 13 || c == 32
theorem r_inWs {c : Nat} {t u : Tok} {Q : Value → Shared → Prop} (h : Q (.bool (isWs c)) s) : wpAny (model prog w) A (compareOp .In (.str (S [c]) t) (.str wsT u)) Q E s := by
  have e : wsT = S [10, 9, 13, 32] := by rfl
  rw [e]
  refine SB.contains ?_
  rw [S_contains1]
  have : decide (c ∈ [10, 9, 13, 32]) = isWs c := by simp only [isWs, List.mem_cons, List.not_mem_nil, or_false, Bool.decide_or, Bool.or_assoc]; rfl
  rw [this]; exact h
end
/-- in quotation marks: the token, what is left -/
noncomputable def qrun : List Nat → List Nat → Option (List Nat × List Nat)
  | [], _ => none
  | c :: st, tok => if c = 34 then some (tok, st) else if c = 92 then (match st with | [] => none | d :: st' => qrun st' (tok ++ [d])) else qrun st (tok ++ [c])
noncomputable def prun : List Nat → List Nat → Option (List Nat × List Nat)
  | [], _ => none
  | c :: st, tok => if isWs c then some (tok, st) else if c = 92 then (match st with | [] => none | d :: st' => prun st' (tok ++ [d])) else prun st (tok ++ [c])
noncomputable def getTok : List Nat → Option (List Nat × List Nat)
  | [] => some ([], [])
  | c :: st => if isWs c then getTok st else if c = 34 then qrun st [] else if c = 92 then (match st with | [] => none | d :: st' => prun st' [d]) else prun st [c]
theorem q_quote (st tok : List Nat) : qrun (34 :: st) tok = some (tok, st) := by rw [qrun.eq_def]; simp
theorem q_back (d : Nat) (st tok : List Nat) : qrun (92 :: d :: st) tok = qrun st (tok ++ [d]) := by rw [qrun.eq_def]; simp
theorem q_back0 (tok : List Nat) : qrun [92] tok = none := by rw [qrun.eq_def]; simp
theorem q_plain {c : Nat} (h : c ≠ 34) (h' : c ≠ 92) (st tok : List Nat) : qrun (c :: st) tok = qrun st (tok ++ [c]) := by rw [qrun.eq_def]; simp [h, h']
theorem p_ws {c : Nat} (h : isWs c = true) (st tok : List Nat) : prun (c :: st) tok = some (tok, st) := by rw [prun.eq_def]; simp [h]
theorem p_back (d : Nat) (st tok : List Nat) : prun (92 :: d :: st) tok = prun st (tok ++ [d]) := by rw [prun.eq_def]; simp [isWs]
theorem p_back0 (tok : List Nat) : prun [92] tok = none := by rw [prun.eq_def]; simp [isWs]
theorem p_plain {c : Nat} (h : isWs c = false) (h' : c ≠ 92) (st tok : List Nat) : prun (c :: st) tok = prun st (tok ++ [c]) := by rw [prun.eq_def]; simp [h, h']
theorem g_ws {c : Nat} (h : isWs c = true) (st : List Nat) : getTok (c :: st) = getTok st := by rw [getTok.eq_def]; simp [h]
theorem g_quote (st : List Nat) : getTok (34 :: st) = qrun st [] := by rw [getTok.eq_def]; simp [isWs]
theorem g_back (d : Nat) (st : List Nat) : getTok (92 :: d :: st) = prun st [d] := by rw [getTok.eq_def]; simp [isWs]
theorem g_back0 : getTok [92] = none := by rw [getTok.eq_def]; simp [isWs]
theorem g_plain {c : Nat} (h : isWs c = false) (h1 : c ≠ 34) (h' : c ≠ 92) (st : List Nat) : getTok (c :: st) = prun st [c] := by rw [getTok.eq_def]; simp [h, h1, h']
end
section
open PySem PySem.W PyProof.Rows PySem.Calls
section
variable {prog : Program} {w : World} {A₀ A : Around} {s : Shared} {base h₀ : Heap} {outer : List Env} {L : Addr} {m : PySem.Str → Option Value} {news : List (Addr × Obj)}
theorem code_defCG {K : Frag} {p : Program} {loose : List PySem.Str} {mean : ExcName → Option Value} {mg mb : PySem.Str → Option Value} {env : Env} {R : Result → Shared → Prop} {name qual : PySem.Str} {params : Arguments} {body : List Stmt} {scope : Scope} {dV kV doc pm cdv ct oc : Value} {an od : Option Addr} {osl : Array (Option Value)} {f : Addr} {args : Args} {binds : List (PySem.Str × Value)}
    (B : Below A₀ base outer h₀) (F : Fr h₀ L s.heap m) (X₀ : K.In h₀) (N : News h₀ L s.heap news) (T : Top p loose mean mg mb h₀) (hA : A.frames = some (env :: outer)) (hf : env.frame = some L) (hke : env.scope.kind = .function)
    (ho : K.lookup f = some ⟨oc, od, .func (fnOf name qual params body scope dV kV doc pm an cdv ct), osl⟩) (hcd : codeIn K cdv qual = true) (hroom : A.depth < recursionLimit)
    (hbind : BindsTo s (fnOf name qual params body scope dV kV doc pm an cdv ct) args binds) (hkind : (binds.all fun y => scope.names.lookup y.1 == some .local || scope.names.lookup y.1 == some .cell) = true)
    (hnd : ((cellsFrom 0 scope.names []).map (·.1)).Nodup)
    (h : ∀ g L' h₁ tk cells, Fr h₀ L g m → Fr g L' h₁ (bindL (envOfC qual scope L' f cdv).kindOf binds fun _ => none) → News g L' h₁ (cells ++ news) →
      CellsAre (bindC (envOfC qual scope L' f cdv).kindOf binds fun _ => none) (cellsFrom (L' + 1) scope.names []) cells → Below A base (env :: outer) g → K.In g → Top p loose mean mg mb g → (∀ p ∈ news, p.1 < L') → GSub s.heap g (news.map (·.1)) → @LE.le Nat _ s.heap.objs.size L' →
      wpAny (model prog w) (A.deeper (envOfC qual scope L' f cdv)) (execs body (envOfC qual scope L' f cdv))
        (fun fl s' => LeaveK h₀ L m g R (match fl with | .ret v => v | _ => .none) s')
        (fun e s' => wpAny (model prog w) (A.deeper (envOfC qual scope L' f cdv)) (leaving (envOfC qual scope L' f cdv) e) (fun _ s'' => R (.error e) s'') (fun e' s'' => R (.error e') s'') s')
        { s with heap := h₁, toks := tk })
    (hco : scope.isCoroutine = false) (hgen : scope.isGenerator = false) (hk : scope.kind = .function) : codeAny (model prog w) A (.call (.ref f) args) R s := by
  obtain ⟨FG, BG, st, lv⟩ := groundX (R := R) B F N hA hf hke
  refine codeAny_call_function hroom ((X₀.keeps F.keep) _ _ ho) rfl hco hgen rfl (codeRec_of (X₀.keeps F.keep) hcd) (hbind _ _ _ _ ?_)
  refine wpAny_newFunctionEnv_cells hk (kindsX hkind _) fun env' he s' x => ?_
  subst he
  refine ⟨(T.nolimit.keeps F.keep).keeps x.toInCall.keep, codeAny_func ?_⟩
  obtain ⟨h₁, tk, rfl, _⟩ := x.done
  have hk₁ := x.toInCall.keep
  obtain ⟨cells, NC, Y⟩ := Cl.news (h₀ := s.heap) (Nat.le_refl _) fun n c hm => ⟨x.cell n c (lookup_of_mem_nodup (cellsFrom_names scope.names 0 (s.heap.objs.size + 1) [] [] rfl ▸ hnd) hm), x.above n c hm⟩
  refine wpAny_mono (h _ s.heap.objs.size h₁ tk cells FG ⟨x.toInCall.ns, fun b o e => hk₁ b o (of_hideAll _ e), Nat.le_of_eq (hideAll_size _ _)⟩ (fun p hp => ?_) Y BG (X₀.keeps st) (T.keeps st) (fun p hp => Heap.lt_size (N p hp).1) (fun b o e n => hideAll_get _ e n) (Nat.le_refl _)) (fun fl s' hl => lv _ _ hl) fun _ _ y => y
  rcases List.mem_append.mp hp with hp | hp
  · refine ⟨(NC p hp).1, (NC p hp).2.1, ?_⟩
    cases q : (hideAll s.heap (news.map (·.1))).get? p.1 with
    | none => rfl
    | some o => have := of_hideAll _ q; rw [(NC p hp).2.2] at this; cases this
  · exact ⟨hk₁ _ _ (N p hp).1, Nat.ne_of_lt (Heap.lt_size (N p hp).1), hideAll_none _ (List.mem_map_of_mem hp)⟩
end
end
section
open PySem PySem.W PyProof.Rows PySem.Calls
noncomputable def pieceL (l : List Nat) (f : Int) : List Nat :=
  if f = 0 then [] else if f < 4 then [l.getD (f - 1).toNat 0] else [l.getD ((f - 4) / 3).toNat 0, l.getD ((f - 4) % 3).toNat 0]
noncomputable def spelledL (x : List Nat) (f : Int) : List Nat := if f = 0 ∨ x = [] then [34] ++ rep 34 [92, 34] x ++ [34] else x.flatMap fun c => [92, c]
section
variable {prog : Program} {w : World} {A : Around} {E : Value → Shared → Prop} {s : Shared} {t u : Tok} {Q : Value → Shared → Prop}
theorem r_fdiv {a b : Int} (hb : 0 < b) (hs : b < 1073741824) (h : ∀ t' k, Q (.int (a / b) t') { s with toks := k }) : wpAny (model prog w) A (binaryOp .FloorDiv (.int a t) (.int b u)) Q E s := by
  refine floordiv_int (by omega) ?_ (Or.inl (PyProof.noPylong_small (by omega)))
  rw [Int.fdiv_eq_ediv_of_nonneg _ (by omega)]
  exact h _ _
theorem r_fmod {a b : Int} (hb : 0 < b) (h : ∀ t' k, Q (.int (a % b) t') { s with toks := k }) : wpAny (model prog w) A (binaryOp .Mod (.int a t) (.int b u)) Q E s := by
  refine mod_int' (by omega) ?_
  rw [Int.fmod_eq_emod_of_nonneg _ (by omega)]
  exact h _ _
theorem r_item {l : List Nat} {i : Int} {value slice : Expr} (h0 : 0 ≤ i) (h1 : i < (l.length : Nat)) (h2 : l.length ≤ 1000000) (h : ∀ t' k, Q (.str (S [l.getD i.toNat 0]) t') { s with toks := k })
    (hs : subscripted slice false (.str (S l) t) (.int i u) = operate [.str (S l) t, .int i u] (getItem (.str (S l) t) (.int i u)) := by with_unfolding_all rfl)
    (ht : ∀ r, letTemporaryGo value (.str (S l) t) r = pure () := by intro _; with_unfolding_all rfl) :
    wpAny (model prog w) A (subscriptTail value slice (.str (S l) t) (.int i u)) Q E s := by
  have hl : i.toNat < l.length := by omega
  have e : l[i.toNat]? = some (l.getD i.toNat 0) := by
    rw [List.getD_eq_getElem?_getD, List.getElem?_eq_getElem hl]; rfl
  have ei : Txt.item (S l) i = S [l.getD i.toNat 0] := by unfold Txt.item; rw [S_charAt h0 e]; rfl
  refine item_str (fitsSsize_of (N := 9223372036854775808) (by omega) (by omega) (Int.le_refl _)) (by omega) (by rw [S_len]; omega) (fun _ => ?_) hs ht
  rw [ei]; exact h _ _
theorem r_replace {c0 : Nat} {z0 x : List Nat} {c z : PySem.Str} {tc tz : Tok} (hc : c = S [c0]) (hz : z = S z0) (hne : z0 ≠ [c0]) (h1 : tc ≠ 0) (h2 : tz ≠ 0) (h3 : tc ≠ tz) (hz6 : z0.length ≤ 6) (hx : x.length ≤ 1000)
    (h : ∀ t' k, Q (.str (S (rep c0 z0 x)) t') { s with toks := k }) : wpAny (model prog w) A (call (.builtin "str.replace") [.str (S x) t, .str c tc, .str z tz]) Q E s := by
  subst hc hz
  refine SC.replaceW h1 h2 h3 ?_ (by rw [S_len]; omega) (by rw [S_len]; omega) ?_
  · rw [S_beq]
    cases hq : ([c0] == z0) with
    | false => rfl
    | true => exact absurd (eq_of_beq hq).symm hne
  · intro t' k
    rw [S_replace]
    exact h t' k
theorem strs_of_paired {f : Nat → List Nat} : ∀ {l : List Nat} {vs ys : List Value}, vs.length = l.length → (∀ (j : Nat) (v : Value), vs[j]? = some v → SignAt (S l) j v) →
    Paired (fun v r => ∃ c u t, v = Value.str (S [c]) u ∧ r = Value.str (S (f c)) t) vs ys → StrsAre ys (l.map f)
  | [], [], _, _, _, .nil => .nil
  | a :: l, v :: vs, _, hl, hv, .cons hf hp => by
    obtain ⟨c, u, t, rfl, rfl⟩ := hf
    obtain ⟨c', u', e1, e2⟩ := hv 0 _ rfl
    have e3 : a = c' := by simpa [S] using e1
    injection e2 with e4
    have e5 : c = c' := by injection e4 with e6; simpa using e6
    subst e3 e5
    refine .cons _ t (strs_of_paired (by simpa using hl) (fun j w hw => ?_) hp)
    obtain ⟨c2, u2, h1, h2⟩ := hv (j + 1) w (by simpa using hw)
    exact ⟨c2, u2, by simpa [S] using h1, h2⟩
theorem r_compS {h₀ : Heap} {L : Addr} {m : PySem.Str → Option Value} {news : List (Addr × Obj)} {env : Env} {elt : Expr} {xn : PySem.Str} {scope : Scope} {l : List Nat} (f : Nat → List Nat) (hh : A.handled = none) (F : Fr h₀ L s.heap m) (N : News h₀ L s.heap news) (hl : l.length ≤ 1000000)
    (g2 : ∀ C c u s₃ m₃ E', c ∈ l → s₃.heap.Ns C m₃ → m₃ xn = some (.str (S [c]) u) → wpAny (model prog w) A (eval elt (compEnv scope C env)) (fun r s₄ => (∃ t, r = .str (S (f c)) t) ∧ Keeps s₃ s₄) E' s₃)
    (g3 : ∀ D ys h' tk, Fr h₀ L h' m → News h₀ L h' news → h₀.get? D = none → h'.IsList D ys.toArray → StrsAre ys (l.map f) → Q (.ref D) { s with heap := h', toks := tk }) :
    wpAny (model prog w) A (pyIter (.str (S l) t)) (CompPost prog w A env scope xn [] elt Q) E s := by
  unfold CompPost
  refine wpAny_pyIter_str fun o St W hst => ?_
  have up : ∀ (h' : Heap), (∀ b o', b ∉ [s.heap.objs.size] → (s.heap.push o).get? b = some o' → h'.get? b = some o') → ∀ b o', s.heap.get? b = some o' → h'.get? b = some o' :=
    fun h' hk b o' e => hk b o' (old_not_new e) (Heap.get?_push_of_some _ e)
  refine ⟨fun _ => true, fun v r => ∃ c u t, v = Value.str (S [c]) u ∧ r = Value.str (S (f c)) t, s.heap.objs.size, [s.heap.objs.size], [s.heap.objs.size], (S l).cps.size, SignAt (S l), St, rfl, W A hh, by rw [S_size, sizeLine_eq]; omega, hst, ?_, ⟨?_, ?_⟩, ?_⟩
  · intro b hb
    show b < (s.heap.push o).objs.size
    rw [Heap.size_push, List.mem_singleton.mp hb]
    exact Nat.lt_succ_self _
  · intro C i v s₃ m₃ E' hP hn hm _ htk
    exact wpAny_pure ⟨rfl, s₃.heap, s₃.toks, rfl, fun _ _ e => e⟩
  · intro C i v s₃ m₃ E' hP hp hn hm _ htk
    obtain ⟨c, u, hc, rfl⟩ := hP
    have hc' : c ∈ l := List.mem_of_getElem? (i := i) (by simpa [S] using hc)
    exact wpAny_mono (g2 C c u s₃ m₃ E' hc' hn hm) (fun r s₄ h₄ => by obtain ⟨⟨t', rfl⟩, k⟩ := h₄; exact ⟨⟨c, u, t', rfl, rfl⟩, k⟩) fun _ _ e => e
  · intro D h' tk ys vs hnew hlD hplD hlen hP hF hk
    refine g3 D ys.toList h' tk (F.keeps (up h' hk)) (N.grown (up h' hk)) ?_ (by rw [Array.toArray_toList]; exact hlD) ?_
    · cases e : h₀.get? D with
      | none => rfl
      | some o' => rw [Heap.get?_push_of_some _ (F.keep _ _ e)] at hnew; cases hnew
    · have e : vs.filter (fun _ => true) = vs := by simp
      rw [e] at hF
      exact strs_of_paired (by rw [hlen, S_size]) hP hF
end
end
section
open PySem PySem.W PyProof.Rows PySem.Calls
theorem lit34 : PySem.Str.ofString "\"" = S [34] := by rfl
theorem lit9234 : PySem.Str.ofString "\\\"" = S [92, 34] := by rfl
theorem lit92 : PySem.Str.ofString "\\" = S [92] := by rfl
theorem lit10 : PySem.Str.ofString "\n" = S [10] := by rfl
theorem lit38 : PySem.Str.ofString "&" = S [38] := by rfl
theorem lit59 : PySem.Str.ofString ";" = S [59] := by rfl
theorem sum_le {f : Nat → List Nat} {B : Nat} (h : ∀ c, (f c).length ≤ B) : ∀ x : List Nat, ((x.map f).map (·.length)).sum ≤ B * x.length
  | [] => by simp
  | a :: r => by
    have ih := sum_le h r
    have := h a
    simp only [List.map_cons, List.sum_cons, List.length_cons, Nat.mul_add, Nat.mul_one]
    omega
theorem empty_iff (x : List Nat) : (S x == PySem.Str.ofString "") = decide (x = []) := by
  rw [lit_empty, S_beq]
  cases x <;> simp
noncomputable def rpt (l : List Nat) (n : Int) : List Nat := (List.replicate n.toNat l).flatten
noncomputable def grown1 (x y : List Nat) (n : Int) : List Nat := rpt (x ++ y) n ++ x
noncomputable def grownL (x y z : List Nat) (h : Int) : List Nat := (grown1 (grown1 x y (1 + h % 2)) z (1 + h / 2 % 2)).take 9
theorem rpt_len (l : List Nat) (n : Int) : (rpt l n).length = n.toNat * l.length := by
  unfold rpt; simp [List.length_flatten, List.map_replicate, List.sum_replicate_nat]
theorem rpt_le {l : List Nat} {n : Int} {B : Nat} (hn : n ≤ 2) (hl : l.length ≤ B) : (rpt l n).length ≤ 2 * B := by
  rw [rpt_len]
  exact Nat.mul_le_mul (by omega) hl
theorem strs_lib : ∀ {vs : List Value} {l : List (List Nat)}, StrsAre vs l → PyProof.Rows.StrsAre vs (l.map S)
  | _, _, .nil => .nil
  | _, _, .cons x t h => .cons (S x) t (strs_lib h)
theorem join_flat : ∀ l : List (List Nat), Str.join (S []) (l.map S) = S l.flatten
  | [] => by simp [Str.join, S]; rfl
  | [a] => by simp [Str.join]
  | a :: b :: r => by
    have ih := join_flat (b :: r)
    rw [List.map_cons] at ih
    show S a ++ S [] ++ Str.join (S []) (S b :: r.map S) = _
    rw [ih, S_app, S_app, List.append_nil]; simp only [List.flatten_cons]
section
variable {prog : Program} {w : World} {A : Around} {E : Value → Shared → Prop} {s : Shared} {t : Tok} {Q : Value → Shared → Prop}
theorem r_join {D : Addr} {ys : List Value} {l : List (List Nat)} {sep : PySem.Str} (hs : sep = S []) (hl : s.heap.IsList D ys.toArray) (hi : StrsAre ys l) (hw : (l.map (·.length)).sum + l.length ≤ 1000000)
    (h : ∀ t' k, Q (.str (S l.flatten) t') { s with toks := k }) : wpAny (model prog w) A (call (.builtin "str.join") [.str sep t, .ref D]) Q E s := by
  subst hs
  refine join_listW hl (by simpa using strs_lib hi) (by rw [S_len]; decide) ?_ fun t' k => ?_
  · have : ((l.map S).map (·.length)) = l.map (·.length) := by rw [List.map_map]; exact List.map_congr_left fun x _ => S_len x
    rw [this, List.length_map]; omega
  · have e : Txt.join (S []) (l.map S) = S l.flatten := (StrLaws.glued_eq_join _ _).trans (join_flat l)
    rw [e]; exact h t' k
theorem mul_rpt (l : List Nat) (n : Int) : Txt.mul (S l) n = S (rpt l n) := by
  unfold Txt.mul rpt
  by_cases h1 : n < 1
  · rw [if_pos h1]
    have : n.toNat = 0 := by omega
    rw [this]; rfl
  · rw [if_neg h1]
    by_cases h2 : (n == 1 || (S l).length == 0) = true
    · rw [if_pos h2]
      rw [Bool.or_eq_true, beq_iff_eq, beq_iff_eq, S_len] at h2
      rcases h2 with rfl | h2
      · simp
      · have : l = [] := List.length_eq_zero_iff.mp h2
        subst this
        simp [List.flatten_replicate_nil]
    · rw [if_neg h2]
      have key : ∀ (k : Nat) (acc : Array Nat), (List.replicate k (S l).cps).foldl (· ++ ·) acc = (acc.toList ++ (List.replicate k l).flatten).toArray := by
        intro k
        induction k with
        | zero => intro acc; simp
        | succ k ih => intro acc; rw [List.replicate_succ, List.foldl_cons, ih, List.replicate_succ]; simp [S]
      rw [key]; simp [S]
theorem r_mul {l : List Nat} {n : Int} {u : Tok} (h0 : 0 ≤ n) (hn : n ≤ 1000) (hl : l.length ≤ 1000) (h : ∀ t' k, Q (.str (S (rpt l n)) t') { s with toks := k }) : wpAny (model prog w) A (binaryOp .Mult (.str (S l) t) (.int n u)) Q E s := by
  refine SB.mul ⟨?_, ?_, ?_⟩ fun t' k => ?_
  · rw [Bool.or_eq_false_iff]; exact ⟨decide_eq_false (by omega), decide_eq_false (by omega)⟩
  · intro h1 _
    rw [S_len]
    have h2 : (1000 : Int) ≤ (2 ^ 63 - 1) / n := by
      rw [Int.le_ediv_iff_mul_le (by omega)]
      have : 1000 * n ≤ 1000 * 1000 := Int.mul_le_mul_of_nonneg_left hn (by decide)
      omega
    omega
  · intro _ _
    rw [S_len]
    have : l.length * n.toNat ≤ 1000 * 1000 := Nat.mul_le_mul hl (by omega)
    show decide (l.length * n.toNat > sizeLine) = false
    rw [sizeLine_eq]
    exact decide_eq_false (by omega)
  · rw [mul_rpt]; exact h t' k
end
end
section
open PySem PySem.W PyProof.Rows PySem.Calls
noncomputable def nmL (f0 f1 f2 : List Nat) (c : Nat) : List Nat := if c = 38 then [97, 109, 112] else if c = 60 then [108, 116] else if c = 62 then [103, 116] else if c = 34 then [113, 117, 111, 116] else if c = 13 then f0 else if c = 10 then f1 else f2
noncomputable def wrL (mk f0 f1 f2 : List Nat) (c : Nat) : List Nat := if c ∈ mk then [38] ++ nmL f0 f1 f2 c ++ [59] else [c]
section
variable {prog : Program} {w : World} {A : Around} {E : Value → Shared → Prop} {s : Shared} {h₀ : Heap} {L : Addr} {m : PySem.Str → Option Value} {env : Env}
noncomputable def CompSrcS (prog : Program) (w : World) (A : Around) (h₀ : Heap) (L : Addr) (m : PySem.Str → Option Value) (env : Env) (elt : Expr) (x : PySem.Str) (scope : Scope) (cl : List (PySem.Str × Addr)) (Fin : Shared → List Value → List (Addr × Obj) → Prop) (xv : Value) (s₁ : Shared) : Prop :=
  ∃ (l : List Nat) (t : Tok) (news : List (Addr × Obj)), xv = .str (S l) t ∧ A.handled = none ∧ Fr h₀ L s₁.heap m ∧ News h₀ L s₁.heap news ∧ l.length ≤ 1000000 ∧
    ∀ s₂ : Shared, (∃ h, s₂ = { s₁ with heap := h }) → LCg.CompRest prog w A h₀ L m env elt x scope cl s₂ (fun _ => True) (SignAt (S l)) (Fin s₂) l.length 0 [] news
theorem pyIter_strU {x : PySem.Str} {t : Tok} {Q : Value → Shared → Prop}
    (hQ : ∀ (o : Obj) (St : Nat → Heap → Prop), (∀ A' : Around, A'.handled = none → Walks prog w A' s.heap.objs.size [s.heap.objs.size] [s.heap.objs.size] x.cps.size (SignAt x) St) → St 0 (s.heap.push o) → (∀ i h, St i h → ∃ o, h.get? s.heap.objs.size = some o) →
      (∀ i h h' o, St i h → h.get? s.heap.objs.size = some o → h'.get? s.heap.objs.size = some o → St i h') →
      Q (.ref s.heap.objs.size) { s with heap := s.heap.push o }) : wpAny (model prog w) A (pyIter (.str x t)) Q E s := by
  have key : ∀ (cl : String) (i : Nat) (h h' : Heap) (o : Obj), h.IsStrIter s.heap.objs.size cl x t i → h.get? s.heap.objs.size = some o → h'.get? s.heap.objs.size = some o → h'.IsStrIter s.heap.objs.size cl x t i :=
    fun cl i h h' o st e e' => by obtain ⟨o', q, r⟩ := st; rw [e] at q; cases q; exact ⟨o, e', r⟩
  cases ha : x.cps.all (· < 128)
  · exact wpAny_pyIter_wide ha (hQ _ _ (fun A' hA => Walks.strWide hA _ x t) ⟨_, Heap.get?_push_size _ rfl, rfl, rfl⟩ (fun i h st => by obtain ⟨o, e, _⟩ := st; exact ⟨o, e⟩) (key _))
  · exact wpAny_pyIter_ascii ha (hQ _ _ (fun A' hA => Walks.strAscii hA _ x t) ⟨_, Heap.get?_push_size _ rfl, rfl, rfl⟩ (fun i h st => by obtain ⟨o, e, _⟩ := st; exact ⟨o, e⟩) (key _))
theorem ListComp_S {elt iter : Expr} {x : PySem.Str} {px : Pos} {scope : Scope} {cl : List (PySem.Str × Addr)} {pos : Pos} {Q : Value → Shared → Prop} (_F₀ : Fr h₀ L s.heap m)
    (hclos : closureFor scope env = pure cl) (hcell : ∀ y ∈ scope.names, y.2 ≠ .cell) (hkind : scope.kind = .function)
    (hnames : ∀ y ∈ scope.names, y.2 = .local → scope.names.lookup y.1 = some .local) (hx : scope.names.lookup x = some .local)
    (h : wpAny (model prog w) A (eval iter env) (CompSrcS prog w A h₀ L m env elt x scope cl (fun s₂ => LCg.FinE h₀ L m s₂ Q)) E s)
    (hs : ∀ x, foldedSetIterable iter env x = pure x := by intro _; rfl) :
    wpAny (model prog w) A (eval (.ListComp elt [⟨.Name x px, iter, [], 0⟩] scope pos) env) Q E s := by
  rw [eval_ListComp]
  refine wpAny_comprehension_free (use := none) rfl hs hclos hkind hnames (wpAny_mono h (fun xv s₁ h₁ => ?_) fun _ _ e => e)
  obtain ⟨l, t, news, rfl, hh, F, N, hl, R⟩ := h₁
  refine pyIter_strU fun o St W hst hIo hSt => ?_
  have up : ∀ b o', s₁.heap.get? b = some o' → (s₁.heap.push o).get? b = some o' := fun b o' e => Heap.get?_push_of_some _ e
  refine LCg.block_U (by have := W A hh; rw [S_size] at this; exact this) (by rw [sizeLine_eq]; omega) hIo (fun i h h' o nw st e e' _ _ _ => hSt i h h' o st e e') hcell hkind hx hst (fun b hb => ?_)
    (F.keeps up) (N.grown up) (Nat.ne_of_lt F.ns.lt) (next_is_new F) (fun p hp => Nat.ne_of_lt (Heap.lt_size (N p hp).1)) trivial (R _ ⟨_, rfl⟩) ?_
  · rw [List.mem_singleton.mp hb]
    show s₁.heap.objs.size < (s₁.heap.push _).objs.size
    rw [Heap.size_push]; exact Nat.lt_succ_self _
  · intro D C h tk m' ys news' F' N' o1 hn hC₀ hD₀ hCL hDL hCD offC fin
    refine ⟨m', hn, fun h'' hs'' => fin D h'' tk (F'.change hs'' hCL hC₀) (fun p hp => ?_) o1⟩
    refine ⟨hs''.extBut _ _ ?_ (N' p hp).1, (N' p hp).2⟩
    rcases List.mem_cons.mp hp with rfl | hp
    · exact Ne.symm hCD
    · exact offC p hp
/-- the turns of a comprehension, by an invariant -/
theorem rest_ind {elt : Expr} {x : PySem.Str} {scope : Scope} {cl : List (PySem.Str × Addr)} {Sx : List (Addr × Obj) → Prop} {P : Nat → Value → Prop} {Fin : List Value → List (Addr × Obj) → Prop} {n : Nat} {J : Nat → List Value → List (Addr × Obj) → Prop}
    (step : ∀ i v ys news I oI C oC D m₂ h tk (E' : Value → Shared → Prop), i < n → P i v → J i ys news → LCg.NsObj oC m₂ → m₂ x = some v → Fr h₀ L h m → News h₀ L h ((I, oI) :: (C, oC) :: (D, LCg.lst ys) :: news) → LCg.Off3 I C D news → ((@Ne Nat I C) ∧ (@Ne Nat I D) ∧ (@Ne Nat C D)) →
      wpAny (model prog w) A (eval elt (compEnvC scope cl C env)) (LCg.CompEnd h₀ L m { s with heap := h, toks := tk } I oI C oC D (LCg.lst ys) Sx (fun y news' => J (i + 1) (ys ++ [y]) news')) E' { s with heap := h, toks := tk })
    (fin : ∀ ys news, J n ys news → Fin ys news) : ∀ k i ys news, i + k = n → J i ys news → LCg.CompRest prog w A h₀ L m env elt x scope cl s Sx P Fin k i ys news
  | 0, i, ys, news, hn, hJ => by
    have : i = n := by omega
    subst this
    exact LCg.CompRest.zero (fin _ _ hJ)
  | k + 1, i, ys, news, hn, hJ => by
    refine LCg.CompRest.succ fun v I oI C oC D m₂ h tk E' hP hC hx F N off ne => ?_
    refine wpAny_mono (step i v ys news I oI C oC D m₂ h tk E' (by omega) hP hJ hC hx F N off ne) (fun y s₂ e => ?_) fun _ _ e => e
    obtain ⟨h', tk', news', rfl, F', N', off', hS, hJ'⟩ := e
    exact ⟨h', tk', news', rfl, F', N', off', hS, rest_ind step fin k (i + 1) (ys ++ [y]) news' (by omega) hJ'⟩
theorem r_inF {c : Nat} {mk : List Nat} {t u : Tok} {Q : Value → Shared → Prop} (hm : c ∉ mk) (h : Q (.bool false) s) : wpAny (model prog w) A (compareOp .In (.str (S [c]) t) (.str (S mk) u)) Q E s := by
  refine SB.contains ?_
  rw [S_contains1, decide_eq_false hm]; exact h
theorem r_inT {y : PySem.Str} {c : Nat} {mk : List Nat} {t u : Tok} {Q : Value → Shared → Prop} (hy : y = S [c]) (hm : c ∈ mk) (h : Q (.bool true) s) : wpAny (model prog w) A (compareOp .In (.str y t) (.str (S mk) u)) Q E s := by
  subst hy
  refine SB.contains ?_
  rw [S_contains1, decide_eq_true hm]; exact h
end
theorem lit60 : PySem.Str.ofString "<" = S [60] := by rfl
theorem lit62 : PySem.Str.ofString ">" = S [62] := by rfl
theorem lit13 : PySem.Str.ofString "\r" = S [13] := by rfl
theorem lit9 : PySem.Str.ofString "\t" = S [9] := by rfl
theorem litamp : PySem.Str.ofString "amp" = S [97, 109, 112] := by rfl
theorem litlt : PySem.Str.ofString "lt" = S [108, 116] := by rfl
theorem litgt : PySem.Str.ofString "gt" = S [103, 116] := by rfl
theorem litquot : PySem.Str.ofString "quot" = S [113, 117, 111, 116] := by rfl
theorem wrL_len {mk f0 f1 f2 : List Nat} (h0 : f0.length ≤ 5) (h1 : f1.length ≤ 5) (h2 : f2.length ≤ 5) (c : Nat) : (wrL mk f0 f1 f2 c).length ≤ 7 := by
  have : (nmL f0 f1 f2 c).length ≤ 5 := by
    unfold nmL
    by_cases c1 : c = 38
    · rw [if_pos c1]; decide
    rw [if_neg c1]
    by_cases c2 : c = 60
    · rw [if_pos c2]; decide
    rw [if_neg c2]
    by_cases c3 : c = 62
    · rw [if_pos c3]; decide
    rw [if_neg c3]
    by_cases c4 : c = 34
    · rw [if_pos c4]; decide
    rw [if_neg c4]
    by_cases c5 : c = 13
    · rw [if_pos c5]; exact h0
    rw [if_neg c5]
    by_cases c6 : c = 10
    · rw [if_pos c6]; exact h1
    rw [if_neg c6]; exact h2
  unfold wrL; split
  · simp only [List.length_append, List.length_cons, List.length_nil]; omega
  · simp
end
section
open PySem PySem.W PyProof.Rows PySem.Calls
theorem q_rep : ∀ (x rest tok : List Nat), (∀ c ∈ x, c ≠ 92) → qrun (rep 34 [92, 34] x ++ 34 :: rest) tok = some (tok ++ x, rest)
  | [], rest, tok, _ => by simp [rep, q_quote]
  | c :: x, rest, tok, h => by
    have ih := q_rep x rest (tok ++ [c]) fun d hd => h d (.tail _ hd)
    have h92 : c ≠ 92 := h c (.head _)
    by_cases e : c = 34
    · subst e
      show qrun (([92, 34] ++ rep 34 [92, 34] x) ++ 34 :: rest) tok = _
      show qrun (92 :: 34 :: (rep 34 [92, 34] x ++ 34 :: rest)) tok = _
      rw [q_back, ih]; simp
    · have er : rep 34 [92, 34] (c :: x) = c :: rep 34 [92, 34] x := by simp [rep, e]
      rw [er, List.cons_append, q_plain e h92, ih]; simp
theorem p_esc : ∀ (x rest tok : List Nat), prun ((x.flatMap fun c => [92, c]) ++ 10 :: rest) tok = some (tok ++ x, rest)
  | [], rest, tok => by simp [p_ws (c := 10) (by decide)]
  | c :: x, rest, tok => by
    have ih := p_esc x rest (tok ++ [c])
    show prun (92 :: c :: ((x.flatMap fun c => [92, c]) ++ 10 :: rest)) tok = _
    rw [p_back, ih]; simp
theorem getTok_spelled (x rest : List Nat) (f : Int) (h : ∀ c ∈ x, c ≠ 92) :
    getTok (spelledL x f ++ 10 :: rest) = some (x, if f = 0 ∨ x = [] then 10 :: rest else rest) := by
  unfold spelledL
  by_cases e : f = 0 ∨ x = []
  · rw [if_pos e, if_pos e]
    show getTok (34 :: (rep 34 [92, 34] x ++ [34] ++ 10 :: rest)) = _
    rw [g_quote, List.append_assoc]
    have := q_rep x (10 :: rest) [] h
    simpa using this
  · rw [if_neg e, if_neg e]
    cases x with
    | nil => exact absurd (Or.inr rfl) e
    | cons c x =>
      show getTok (92 :: c :: ((x.flatMap fun c => [92, c]) ++ 10 :: rest)) = _
      rw [g_back, p_esc]; simp
theorem getTok_nl (rest : List Nat) : getTok (10 :: rest) = getTok rest := g_ws (by decide) rest
end
section
open PySem PySem.W PyProof.Rows PySem.Calls
section
variable {prog : Program} {w : World} {A : Around} {E : Value → Shared → Prop} {s : Shared}
theorem nextOf_tuple_item {it t : Addr} {i : Nat} {items : Array Value} {x : Value} {Q : Value → Shared → Prop} (hit : s.heap.IsTupleIter it t i)
    (ht : s.heap.IsTuple t items) (hx : items[i]? = some x)
    (hQ : ∀ h', h'.IsTupleIter it t (i + 1) → Heap.SameBut it s.heap h' → Q x { s with heap := h' }) :
    wpAny (model prog w) A (Builtin.SmallTypes.nextOf (.ref it)) Q E s := by
  obtain ⟨o, ho, hc, hd⟩ := id hit
  obtain ⟨ol, hol, _, nl, hdl⟩ := ht
  unfold Builtin.SmallTypes.nextOf
  refine wpAny_bind (wpAny_callSpecial?_slot (name := Str.ofString "__next__") hit.typeIs F.slot_tuple_iterator_next
    (wpAny_call_entry F.slot_tuple_iterator_next hit.typeIs F.entry_tuple_iterator_next ?_ (F.args_tuple_iterator_next_1 _)))
  show wpAny _ _ (field (.ref it) 0 >>= _) _ _ s
  refine wpAny_bind (wpAny_field ho hd (x := .ref t) rfl ?_)
  show wpAny _ _ (if (Value.ref t == Value.none) = true then _ else _) _ _ s
  rw [if_neg (show ¬ ((Value.ref t == Value.none) = true) from Bool.false_ne_true)]
  show wpAny _ _ (field (.ref it) 1 >>= _) _ _ s
  refine wpAny_bind (wpAny_field ho hd (x := .int i 0) rfl ?_)
  show wpAny _ _ (seqItems? (.ref t) >>= _) _ _ s
  refine wpAny_bind (wpAny_seqItems hol hdl ?_)
  simp only [Int.toNat_natCast, hx]
  refine wpAny_bind (wpAny_setField ho hd (by simp) (wpAny_pure ⟨x, rfl, wpAny_pure (hQ _ ?_ (Heap.SameBut.update ..))⟩))
  exact ⟨_, Heap.get?_update_self _ ho (Obj.isFreed_of_fields (Obj.data_mapFields hd _)), (Obj.cls_mapFields ..).trans hc, by
    rw [Obj.data_mapFields hd]; simp [rawInt]⟩
theorem nextOf_tuple_end {it t : Addr} {i : Nat} {items : Array Value} {Q : Value → Shared → Prop} (hh : A.handled = none)
    (hit : s.heap.IsTupleIter it t i) (ht : s.heap.IsTuple t items) (hx : items[i]? = none)
    (hE : ∀ h' e, Heap.ExtBut it s.heap h' → (∃ o, h'.get? e = some o ∧ o.cls = .type "StopIteration") → E (.ref e) { s with heap := h' }) :
    wpAny (model prog w) A (Builtin.SmallTypes.nextOf (.ref it)) Q E s := by
  obtain ⟨o, ho, hc, hd⟩ := id hit
  obtain ⟨ol, hol, _, nl, hdl⟩ := ht
  unfold Builtin.SmallTypes.nextOf
  refine wpAny_bind (wpAny_callSpecial?_slot (name := Str.ofString "__next__") hit.typeIs F.slot_tuple_iterator_next
    (wpAny_call_entry F.slot_tuple_iterator_next hit.typeIs F.entry_tuple_iterator_next ?_ (F.args_tuple_iterator_next_1 _)))
  show wpAny _ _ (field (.ref it) 0 >>= _) _ _ s
  refine wpAny_bind (wpAny_field ho hd (x := .ref t) rfl ?_)
  show wpAny _ _ (if (Value.ref t == Value.none) = true then _ else _) _ _ s
  rw [if_neg (show ¬ ((Value.ref t == Value.none) = true) from Bool.false_ne_true)]
  show wpAny _ _ (field (.ref it) 1 >>= _) _ _ s
  refine wpAny_bind (wpAny_field ho hd (x := .int i 0) rfl ?_)
  show wpAny _ _ (seqItems? (.ref t) >>= _) _ _ s
  refine wpAny_bind (wpAny_seqItems hol hdl ?_)
  simp only [Int.toNat_natCast, hx]
  refine wpAny_bind (wpAny_rule (wpAny_bind (wpAny_setField ho hd (by simp) ?_)))
  show wpAny _ _ (newExc (.type "StopIteration") [] >>= _) _ _ _
  refine wpAny_bind ?_
  simp only [newExc, newTuple]
  refine wpAny_bind (wpAny_newObj_type ?_ (by size_fits))
  refine wpAny_bind (m := firstArgMember _ _) (wpAny_of_eq (a := Value.none) (by first | rfl | (simp only [firstArgMember]; rfl)) ?_)
  refine wpAny_newObj_type ?_ (by size_fits)
  simp only [raiseNew]
  refine wpAny_bind (wpAny_handled ?_)
  first | rw [show A.in1.handled = none from hh] | rw [hh]
  refine wpAny_bind (wpAny_pure (wpAny_throw ?_))
  exact hE _ _ (((Heap.SameBut.update ..).extBut.push _).push _) ⟨_, Heap.get?_push_size _ rfl, rfl⟩
end
theorem draws_tuple {prog : Program} {w : World} {A : Around} (hh : A.handled = none) (it l : Addr) (hne : l ≠ it) (items : Array Value) :
    Draws prog w A it [it, l] items.size (fun i v => items[i]? = some v) (fun i h => h.IsTupleIter it l i ∧ h.IsTuple l items) where
  live := fun _ _ st => let ⟨o, ho, _⟩ := st.1; ⟨o, ho⟩
  frame := fun _ h h' st hk => ⟨let ⟨o, ho, r⟩ := st.1; ⟨o, hk it (by simp) o ho, r⟩, let ⟨o, ho, r⟩ := st.2; ⟨o, hk l (by simp) o ho, r⟩⟩
  item := fun i s Q E hi st hQ => by
    refine nextOf_tuple_item st.1 st.2 (x := items[i]) (by simp [hi]) fun h' hit' hs' => ?_
    exact hQ _ h' s.toks (by simp [hi]) ⟨hit', st.2.extBut hs'.extBut hne⟩ hs'
  done := fun s Q E st hE => nextOf_tuple_end hh st.1 st.2 (by simp) hE
open AutoSeq1 (wpAny_loadPart') in
theorem meets_enumerate_newT (l : Addr) (o : Obj) (items : Array Value) (ho : o.cls = .type "tuple" ∧ ∃ n, o.data = .seq items n) :
    Meets (Builtin.«enumerate.__new__» ⟨[.type "enumerate", .ref l], []⟩) (fun _ R s => s.heap.get? l = some o ∧
      R (.ok (.ret (.ref (s.heap.push { cls := .type "tuple_iterator", data := .fields #[.ref l, .int 0 0] }).objs.size)))
        { s with heap := (s.heap.push { cls := .type "tuple_iterator", data := .fields #[.ref l, .int 0 0] }).push { cls := .type "enumerate", data := .fields #[.none, .bool false, .ref s.heap.objs.size, rawInt 0, .none, .none] } }) :=
  .of_wp fun prog w A R s h => by
    obtain ⟨hp, g, d, tk, os⟩ := s; obtain ⟨hl, h⟩ := h
    have hsub := sub_enumerate
    have hL : Heap.IsTuple (Shared.heap ⟨hp, g, d, tk, os⟩) l items := by obtain ⟨h1, n, h2⟩ := ho; exact ⟨o, hl, h1, n, h2⟩
    wp_walk using wpAny_loadPart' hl, wpAny_pyIter_tuple hL
    refine wpAny_stack_any fun st => wpAny_pure ?_
    split
    · rename_i c _ _ _ _ _
      cases (c == Value.type "enumerate")
      · wp_walk using wpAny_loadPart' hl, wpAny_pyIter_tuple hL
        exact ⟨_, rfl, h⟩
      · wp_walk using wpAny_loadPart' hl, wpAny_pyIter_tuple hL
        exact ⟨_, rfl, h⟩
    · wp_walk using wpAny_loadPart' hl, wpAny_pyIter_tuple hL
      exact ⟨_, rfl, h⟩
theorem call_enumerate_tuple {prog : Program} {w : World} {A : Around} {E : Value → Shared → Prop} {s : Shared} {l : Addr} {items : Array Value} {Q : Value → Shared → Prop} (hL : s.heap.IsTuple l items)
    (h : ∀ h', IsEnum h' (s.heap.objs.size + 1) s.heap.objs.size 0 .none → h'.IsTupleIter s.heap.objs.size l 0 → h'.objs.size = s.heap.objs.size + 2 →
      (∀ b o, s.heap.get? b = some o → h'.get? b = some o) → Q (.ref (s.heap.objs.size + 1)) { s with heap := h' }) :
    wpAny (model prog w) A (call (.type "enumerate") [.ref l]) Q E s := by
  obtain ⟨o, hl, hc, n, hd⟩ := hL
  refine callType_new F.called_enumerate (by decide) (F.typeCall_enumerate_1 _) (F.newCall_enumerate_1 _) (fun obj => F.args_object_init_2 obj _) F.entry_enumerate_new
    (meets_enumerate_newT l o items ⟨hc, n, hd⟩) ⟨hl, ?_⟩
  have hz : (s.heap.push { cls := .type "tuple_iterator", data := .fields #[.ref l, .int 0 0] }).objs.size = s.heap.objs.size + 1 := Heap.size_push ..
  show _ ∧ _
  rw [hz]
  have he : IsEnum ((s.heap.push { cls := .type "tuple_iterator", data := .fields #[.ref l, .int 0 0] }).push
      { cls := .type "enumerate", data := .fields #[.none, .bool false, .ref s.heap.objs.size, rawInt 0, .none, .none] }) (s.heap.objs.size + 1) s.heap.objs.size 0 .none := by
    have := Heap.get?_push_size (s.heap.push { cls := .type "tuple_iterator", data := .fields #[.ref l, .int 0 0] })
      (o := { cls := .type "enumerate", data := .fields #[.none, .bool false, .ref s.heap.objs.size, rawInt 0, .none, .none] }) rfl
    rw [hz] at this; exact this
  refine ⟨⟨_, he, rfl⟩, h _ he ⟨_, Heap.get?_push_of_some _ (Heap.get?_push_size _ rfl), rfl, rfl⟩ (by rw [Heap.size_push, hz]) fun b o x => Heap.get?_push_of_some _ (Heap.get?_push_of_some _ x)⟩
end
section
open PySem PySem.W PyProof.Rows PySem.Calls PyProof.Rows.LCg
noncomputable def KeyIn (it : Addr) (oi : Obj) (l : Addr) (ol : Obj) (nw : List (Addr × Obj)) : Prop := ∃ r, nw = (it, oi) :: r ∧ (l, ol) ∈ r ∧ Off1 it r
/-- the turns of a comprehension over an enumerate -/
noncomputable def CompRestE (prog : Program) (w : World) (A : Around) (h₀ : Heap) (L : Addr) (m : PySem.Str → Option Value) (env : Env) (elt : PySem.Expr) (x x₂ : PySem.Str) (scope : Scope) (cl : List (PySem.Str × Addr)) (s : Shared) (l : Addr) (ol : Obj) (P : Nat → Value → Prop)
    (Fin : List Value → List (Addr × Obj) → Prop) : Nat → Nat → List Value → List (Addr × Obj) → Prop
  | 0, _, ys, news => Fin ys news
  | k + 1, i, ys, news => ∀ v t e oe it oi C oC D m₂ h tk (E' : Value → Shared → Prop), P i v → NsObj oC m₂ → m₂ x = some (.int (i : Int) t) → m₂ x₂ = some v → Fr h₀ L h m → News h₀ L h ((e, oe) :: (C, oC) :: (D, lst ys) :: (it, oi) :: news) → Off3 e C D ((it, oi) :: news) → Off1 it news → ((@Ne Nat e C) ∧ (@Ne Nat e D) ∧ (@Ne Nat C D)) →
      wpAny (model prog w) A (eval elt (compEnvC scope cl C env)) (CompEnd h₀ L m { s with heap := h, toks := tk } e oe C oC D (lst ys) (KeyIn it oi l ol) (fun y nw => CompRestE prog w A h₀ L m env elt x x₂ scope cl s l ol P Fin k (i + 1) (ys ++ [y]) nw.tail)) E' { s with heap := h, toks := tk }
theorem off1_mem {D : Addr} : ∀ {l : List (Addr × Obj)}, Off1 D l → ∀ p ∈ l, p.1 ≠ D
  | [], _, _, h => nomatch h
  | _ :: _, x, p, h => by
    rcases List.mem_cons.mp h with rfl | h
    · exact x.1
    · exact off1_mem x.2 p h
theorem off1_of {D : Addr} : ∀ {l : List (Addr × Obj)}, (∀ p ∈ l, p.1 ≠ D) → Off1 D l
  | [], _ => trivial
  | _ :: _, h => ⟨h _ List.mem_cons_self, off1_of fun p hp => h p (List.mem_cons_of_mem _ hp)⟩
section
variable {prog : Program} {w : World} {A : Around} {E : Value → Shared → Prop} {s : Shared} {h₀ : Heap} {L : Addr} {m : PySem.Str → Option Value} {env : Env}
theorem block_E {elt iter : PySem.Expr} {x x₂ : PySem.Str} {px px₂ tp : Pos} {tt : Nat} {scope : Scope} {cl : List (PySem.Str × Addr)} {pos : Pos} {s₂ : Shared} {e it l : Addr} {ol : Obj} {n : Nat} {P : Nat → Value → Prop} {St : Nat → Heap → Prop} {Mid : Nat → Addr → Heap → Prop} {news : List (Addr × Obj)}
    {Fin : List Value → List (Addr × Obj) → Prop} {RR : Value → Addr → Result → Shared → Prop}
    (W : WalksT prog w A e [e, it, l] [e, it] n (fun i vals => ∃ t x, P i x ∧ vals = #[.int (i : Int) t, x]) St Mid) (hsz : n ≤ sizeLine) (hSo : ∀ i h, St i h → (∃ o, h.get? e = some o) ∧ (∃ o, h.get? it = some o) ∧ h.get? l = some ol)
    (hcell : ∀ y ∈ scope.names, y.2 ≠ .cell) (hkind : scope.kind = .function) (hx : scope.names.lookup x = some .local) (hx₂ : scope.names.lookup x₂ = some .local) (hxx : x ≠ x₂) (hh : A.handled = none) (hst : St 0 s₂.heap) (hfp : ∀ b ∈ [e, it, l], b < s₂.heap.objs.size)
    (F : Fr h₀ L s₂.heap m) (N : News h₀ L s₂.heap news) (hIL : L ≠ e) (hI₀ : h₀.get? e = none) (hiL : L ≠ it) (hi₀ : h₀.get? it = none) (hei : e ≠ it) (off : ∀ p ∈ news, p.1 ≠ e ∧ p.1 ≠ it) (hS : (l, ol) ∈ news)
    (R : CompRestE prog w A h₀ L m env elt x x₂ scope cl s₂ l ol P Fin n 0 [] news)
    (hRR : ∀ D C h tk m' ys news', Fr h₀ L h m → News h₀ L h ((D, lst ys) :: news') → Off1 D news' → (∀ p ∈ news, p.1 < D) → h.Ns C m' → h₀.get? C = none → h₀.get? D = none → C ≠ L → D ≠ L → C ≠ D → (∀ p ∈ news', p.1 ≠ C) → Fin ys news' → RR (.ref D) C (.ok .next) { s₂ with heap := h, toks := tk }) :
    wpAny (model prog w) A (newList []) (fun acc s₃ => wpAny (model prog w) A (newFunctionEnv scope env.globals cl [] env.qual none .none (some env)) (fun cenv s₄ =>
      codeAny (model prog w) A (.compStart (.ListComp elt [⟨.Tuple [.Name x px, .Name x₂ px₂] tt tp, iter, [], 0⟩] scope pos) 0 (.ref e) acc { cenv with scope := relabel scope env }) (RR acc cenv.locals) s₄) E s₃) E s₂ := by
  refine wpAny_newObj_type (wpAny_newFunctionEnv hcell (by intro y hy; simp at hy) (fun h₁ hns₁ hsb₁ => ?_) hkind)
  dsimp only at hns₁ hsb₁ ⊢
  generalize hH2 : s₂.heap.push { cls := .type "list", dict := none, data := .seq ([] : List Value).toArray } = H2 at hns₁ hsb₁ ⊢
  have hC : H2.objs.size = s₂.heap.objs.size + 1 := by rw [← hH2, Heap.size_push]
  have hDC : s₂.heap.objs.size ≠ H2.objs.size := by rw [hC]; exact Nat.ne_of_lt (Nat.lt_succ_self _)
  have below : ∀ b, b < s₂.heap.objs.size → b ≠ H2.objs.size ∧ b ≠ s₂.heap.objs.size := fun b hb => ⟨by rw [hC]; exact Nat.ne_of_lt (Nat.lt_succ_of_lt hb), Nat.ne_of_lt hb⟩
  have hDf : s₂.heap.objs.size ∉ [e, it, l] := fun hm => Nat.lt_irrefl _ (hfp _ hm)
  have hCf : H2.objs.size ∉ [e, it, l] := fun hm => by have := hfp _ hm; rw [hC] at this; exact Nat.lt_irrefl _ (Nat.lt_of_succ_lt this)
  have hIlt : e < s₂.heap.objs.size := hfp e (.head _)
  have hilt : it < s₂.heap.objs.size := hfp it (.tail _ (.head _))
  have old : ∀ b o, s₂.heap.get? b = some o → h₁.get? b = some o := fun b o e => hsb₁.extBut b o (below b (Heap.lt_size e)).1 (Heap.get?_push_of_some _ (hH2 ▸ Heap.get?_push_of_some _ e))
  have hacc : h₁.get? s₂.heap.objs.size = some (lst []) := hsb₁.extBut _ _ hDC (Heap.get?_push_of_some _ (hH2 ▸ Heap.get?_push_size _ rfl))
  have hst₁ : St 0 h₁ := W.frame _ _ _ hst fun b _ o e => old b o e
  have fresh : ∀ a, s₂.heap.objs.size ≤ a → s₂.heap.get? a = none := fun a ha => by
    cases e : s₂.heap.get? a with
    | none => rfl
    | some o' => exact absurd (Heap.lt_size e) (Nat.not_lt.mpr ha)
  have fresh₀ : ∀ a, s₂.heap.objs.size ≤ a → h₀.get? a = none := fun a ha => by
    cases e : h₀.get? a with
    | none => rfl
    | some o' => have := F.keep a o' e; rw [fresh a ha] at this; cases this
  have hD₀ : h₀.get? s₂.heap.objs.size = none := fresh₀ _ (Nat.le_refl _)
  have hC₀ : h₀.get? H2.objs.size = none := fresh₀ _ (by rw [hC]; exact Nat.le_succ _)
  have hLlt : L < s₂.heap.objs.size := F.ns.lt
  have hDL : s₂.heap.objs.size ≠ L := Ne.symm (below L hLlt).2
  have hCL : H2.objs.size ≠ L := Ne.symm (below L hLlt).1
  have hCI : e ≠ H2.objs.size := (below e hIlt).1
  have hDI : e ≠ s₂.heap.objs.size := (below e hIlt).2
  have hCi : it ≠ H2.objs.size := (below it hilt).1
  have hDi : it ≠ s₂.heap.objs.size := (below it hilt).2
  have off₀ : ∀ p ∈ news, p.1 ≠ e ∧ p.1 ≠ it ∧ p.1 ≠ H2.objs.size ∧ p.1 ≠ s₂.heap.objs.size := fun p hp => ⟨(off p hp).1, (off p hp).2, (below _ (Heap.lt_size (N p hp).1)).1, (below _ (Heap.lt_size (N p hp).1)).2⟩
  have loop : ∀ s₃ : Shared, s₃ = { s₂ with heap := h₁, toks := s₂.toks + ([] : List (PySem.Str × Value)).length } →
      codeAny (model prog w) A (.compLoop (.ListComp elt [⟨.Tuple [.Name x px, .Name x₂ px₂] tt tp, iter, [], 0⟩] scope pos) 0 (.ref e) (.ref s₂.heap.objs.size) (compEnvC scope cl H2.objs.size env))
        (RR (.ref s₂.heap.objs.size) H2.objs.size) s₃ := by
    rintro s₃ rfl
    refine LCp.codeAny_compLoop_pair
      (fun k s' => ∃ h' tk i ys m' news', s' = { s₂ with heap := h', toks := tk } ∧ i ≤ n ∧ k = n + 1 - i ∧ ys.length = i ∧ St i h' ∧ Fr h₀ L h' m ∧ h'.Ns H2.objs.size m' ∧ News h₀ L h' ((s₂.heap.objs.size, lst ys) :: news') ∧
        (∀ p ∈ news', p.1 ≠ e ∧ p.1 ≠ it ∧ p.1 ≠ H2.objs.size ∧ p.1 ≠ s₂.heap.objs.size) ∧ (l, ol) ∈ news' ∧ CompRestE prog w A h₀ L m env elt x x₂ scope cl s₂ l ol P Fin (n - i) i ys news') ?_ (n + 1)
      ⟨h₁, _, 0, [], _, news, rfl, Nat.zero_le _, rfl, rfl, hst₁, F.keeps old, hns₁, fun p hp => ?_, off₀, hS, R⟩
    · rintro k s' ⟨h', tk, i, ys, m', news', rfl, hi, rfl, hyl, hst', F', hn', N', off', hS', R'⟩
      have keepW : ∀ h₂ : Heap, (∀ b o, b ∉ [e, it] → h'.get? b = some o → h₂.get? b = some o) → Fr h₀ L h₂ m ∧ News h₀ L h₂ ((s₂.heap.objs.size, lst ys) :: news') ∧ h₂.Ns H2.objs.size m' := fun h₂ hk₂ => by
        have ne2 : ∀ b, b ≠ e → b ≠ it → b ∉ [e, it] := fun b h1 h2 hm => by
          rcases List.mem_cons.mp hm with q | hm
          · exact h1 q
          · exact h2 (List.mem_singleton.mp hm)
        refine ⟨⟨F'.ns.at' fun o q => hk₂ L o (ne2 L hIL hiL) q, fun b o q => hk₂ b o (ne2 b (fun r => by rw [r, hI₀] at q; cases q) (fun r => by rw [r, hi₀] at q; cases q)) (F'.keep b o q), F'.above⟩, fun p hp => ?_, hn'.at' fun o q => hk₂ _ o (ne2 _ (Ne.symm hCI) (Ne.symm hCi)) q⟩
        refine ⟨hk₂ _ _ ?_ (N' p hp).1, (N' p hp).2⟩
        rcases List.mem_cons.mp hp with rfl | hp
        · exact ne2 _ (Ne.symm hDI) (Ne.symm hDi)
        · exact ne2 _ (off' p hp).1 (off' p hp).2.1
      by_cases hlt : i < n
      · obtain ⟨j, hj⟩ : ∃ j, n - i = j + 1 := ⟨n - i - 1, by omega⟩
        rw [hj] at R'
        refine W.item i _ _ _ hlt hst' fun T vals h₂ tk₂ hPt _ hT hMid hk₂ => ?_
        obtain ⟨t, v, hPv, rfl⟩ := hPt
        refine W.go _ tt tp i T _ _ _ hMid fun h₄ hst₄ hk₄ => ?_
        have ht : h₄.IsTuple T #[.int (i : Int) t, v] := hT.at fun o q => hk₄ T o (W.apart i T h₂ hMid) q
        have hk24 : ∀ b o, b ∉ [e, it] → h'.get? b = some o → h₄.get? b = some o := fun b o hb q => hk₄ b o hb (hk₂ b o hb q)
        obtain ⟨F₄, N₄, hn₄⟩ := keepW h₄ hk24
        refine kcp_assign hh ht (lookup_relabel_local hx) (lookup_relabel_local hx₂) (by simp [compEnvC, relabel, hkind]) hn₄ fun h₃ tk₃ hn₃ up₃ => ?_
        have hst₃ : St (i + 1) h₃ := W.frame _ _ _ hst₄ fun b hb o q => up₃ b o (fun r => hCf (by have q' : b = H2.objs.size := r; rw [← q']; exact hb)) q
        obtain ⟨⟨oe, hoe⟩, ⟨oi, hoi⟩, hol⟩ := hSo _ _ hst₃
        obtain ⟨oC, heC, hoC⟩ := ns_obj hn₃
        have F₃ : Fr h₀ L h₃ m := ⟨F₄.ns.at' fun o q => up₃ L o (Ne.symm hCL) q, fun b o q => up₃ b o (fun r => by have q' : b = H2.objs.size := r; rw [q', hC₀] at q; cases q) (F₄.keep b o q), F₄.above⟩
        have N₃ : News h₀ L h₃ ((e, oe) :: (H2.objs.size, oC) :: (s₂.heap.objs.size, lst ys) :: (it, oi) :: news') := fun p hp => by
          rcases List.mem_cons.mp hp with rfl | hp
          · exact ⟨hoe, Ne.symm hIL, hI₀⟩
          · rcases List.mem_cons.mp hp with rfl | hp
            · exact ⟨heC, hCL, hC₀⟩
            · rcases List.mem_cons.mp hp with rfl | hp
              · exact ⟨up₃ _ _ hDC (N₄ _ (.head _)).1, hDL, hD₀⟩
              · rcases List.mem_cons.mp hp with rfl | hp
                · exact ⟨hoi, Ne.symm hiL, hi₀⟩
                · exact ⟨up₃ _ _ (off' p hp).2.2.1 (N₄ _ (.tail _ hp)).1, (N₄ _ (.tail _ hp)).2⟩
        refine wpAny_mono (R' v t e oe it oi H2.objs.size oC s₂.heap.objs.size _ h₃ tk₃ _ hPv hoC (by simp [hxx]) (by simp) F₃ N₃ (Off3.of fun p hp => ?_) (off1_of fun p hp => (off' p hp).2.1) ⟨hCI, hDI, Ne.symm hDC⟩) (fun y s₄ h₄ => ?_) fun _ _ e => e
        · rcases List.mem_cons.mp hp with rfl | hp
          · exact ⟨Ne.symm hei, hCi, hDi⟩
          · exact ⟨(off' p hp).1, (off' p hp).2.2⟩
        obtain ⟨h₄, tk₄, nw₄, rfl, F₄, N₄, off₄, ⟨news₄, rfl, hS₄, o4⟩, R₄⟩ := h₄
        have zI := (N₄ (e, oe) List.mem_cons_self).1
        have zC := (N₄ (H2.objs.size, oC) (List.mem_cons_of_mem _ List.mem_cons_self)).1
        have zD := (N₄ (s₂.heap.objs.size, lst ys) (List.mem_cons_of_mem _ (List.mem_cons_of_mem _ List.mem_cons_self))).1
        have zi := (N₄ (it, oi) (.tail _ (.tail _ (.tail _ (.head _))))).1
        have N₄' : News h₀ L h₄ news₄ := fun p hp => N₄ p (.tail _ (.tail _ (.tail _ (.tail _ hp))))
        have zl := (N₄' _ hS₄).1
        have hst₅ : St (i + 1) h₄ := W.frame _ _ _ hst₃ fun b hb o q => by
          simp only [List.mem_cons, List.not_mem_nil, or_false] at hb
          rcases hb with rfl | rfl | rfl
          · rw [hoe] at q; cases q; exact zI
          · rw [hoi] at q; cases q; exact zi
          · rw [hol] at q; cases q; exact zl
        have off4 := off₄.mem
        have hn4i : ∀ p ∈ news₄, p.1 ≠ it := off1_mem o4
        refine append_at (hsz := by show ys.toArray.size ≤ sizeLine; rw [List.size_toArray, hyl]; exact Nat.le_trans hi hsz) zD fun h₅ hs₅ hD₅ => ?_
        refine ⟨n + 1 - (i + 1), by omega, h₅, tk₄, i + 1, ys ++ [y], _, news₄, rfl, hlt, rfl, by rw [List.length_append, List.length_singleton, hyl], W.frame _ _ _ hst₅ fun b hb o e => hs₅.extBut b o (fun q => hDf (q ▸ hb)) e, F₄.change hs₅ hDL hD₀,
          (hoC.ns zC).sameBut hs₅ (Ne.symm hDC), fun p hp => ?_, fun p hp => ⟨(off4 p (.tail _ hp)).1, hn4i p hp, (off4 p (.tail _ hp)).2⟩, hS₄, ?_⟩
        · rcases List.mem_cons.mp hp with rfl | hp
          · exact ⟨hD₅.trans (congrArg some (lst_snoc ys y)), hDL, hD₀⟩
          · exact ⟨hs₅.extBut _ _ (off4 p (.tail _ hp)).2.2 (N₄' p hp).1, (N₄' p hp).2⟩
        · rw [show n - (i + 1) = j by omega]
          exact R₄
      · obtain rfl : i = n := Nat.le_antisymm hi (Nat.not_lt.mp hlt)
        rw [Nat.sub_self] at R'
        refine W.done _ _ _ hst' fun h₂ tk₂ hk₂ => ?_
        obtain ⟨F₂, N₂, hn₂⟩ := keepW h₂ hk₂
        exact hRR _ _ h₂ tk₂ _ ys news' F₂ N₂ (off1_of fun p hp => (off' p hp).2.2.2) (fun p hp => Heap.lt_size (N p hp).1) hn₂ hC₀ hD₀ hCL hDL (Ne.symm hDC) (fun p hp => (off' p hp).2.2.1) R'
    · rcases List.mem_cons.mp hp with rfl | hp
      · exact ⟨hacc, hDL, hD₀⟩
      · exact ⟨old _ _ (N p hp).1, (N p hp).2⟩
  exact codeAny_compStart_list (loop _ rfl) (W.self 0 _ _ _ hst₁ (loop _ rfl))
end
end
section
open PySem PySem.W PyProof.Rows PySem.Calls PyProof.Rows.LCg
theorem walksT_and {prog : Program} {w : World} {A : Around} {e it l : Addr} {n n' : Nat} {ol : Obj} {Pt Pt' : Nat → Array Value → Prop} {St : Nat → Heap → Prop} {Mid : Nat → Addr → Heap → Prop} (W0 : WalksT prog w A e [e, it, l] [e, it] n Pt St Mid) (hn : n = n') (hp : ∀ i v, Pt i v → Pt' i v) (h1 : l ≠ e) (h2 : l ≠ it) :
    WalksT prog w A e [e, it, l] [e, it] n' Pt' (fun i h => St i h ∧ h.get? l = some ol) (fun i T h => Mid i T h ∧ h.get? l = some ol) := by
  subst hn
  have nin : l ∉ [e, it] := fun hm => by
    simp only [List.mem_cons, List.not_mem_nil, or_false] at hm
    rcases hm with q | q
    · exact h1 q
    · exact h2 q
  exact {
      sub := W0.sub
      frame := fun i h h' st k => ⟨W0.frame i h h' st.1 k, k l (by simp) _ st.2⟩
      item := fun i s' Q E hi st hQ => W0.item i s' Q E hi st.1 fun T vals h2 tk hP hs hT hM hk => hQ T vals h2 tk (hp _ _ hP) hs hT ⟨hM, hk _ _ nin st.2⟩ hk
      go := fun elts k pos i T s' Q E hm hQ => W0.go elts k pos i T s' Q E hm.1 fun h2 st hk => hQ h2 ⟨st, hk _ _ nin hm.2⟩ hk
      apart := fun i T h2 hm => W0.apart i T h2 hm.1
      done := fun s' Q E st hQ => W0.done s' Q E st.1 hQ
      self := fun i s' Q E st hQ => W0.self i s' Q E st.1 hQ }
section
variable {prog : Program} {w : World} {A : Around} {E : Value → Shared → Prop} {s : Shared} {h₀ : Heap} {L : Addr} {m : PySem.Str → Option Value} {env : Env}
/-- the end: the new list, above all that stood -/
noncomputable def FinO (h₀ : Heap) (L : Addr) (m : PySem.Str → Option Value) (Q : Value → Shared → Prop) (news₀ : List (Addr × Obj)) (s : Shared) (ys : List Value) (news : List (Addr × Obj)) : Prop :=
  ∀ D h tk, Fr h₀ L h m → News h₀ L h ((D, lst ys) :: news) → Off1 D news → (∀ p ∈ news₀, p.1 < D) → Q (.ref D) { s with heap := h, toks := tk }
noncomputable def SrcE (prog : Program) (w : World) (A : Around) (h₀ : Heap) (L : Addr) (m : PySem.Str → Option Value) (env : Env) (elt : PySem.Expr) (x x₂ : PySem.Str) (scope : Scope) (cl : List (PySem.Str × Addr)) (Fin : List (Addr × Obj) → Shared → List Value → List (Addr × Obj) → Prop) (xv : Value) (s₁ : Shared) : Prop :=
  ∃ (e it l : Addr) (ol : Obj) (n : Nat) (P : Nat → Value → Prop) (St : Nat → Heap → Prop) (Mid : Nat → Addr → Heap → Prop) (news : List (Addr × Obj)), xv = .ref e ∧ A.handled = none ∧
    WalksT prog w A e [e, it, l] [e, it] n (fun i vals => ∃ t x, P i x ∧ vals = #[.int (i : Int) t, x]) St Mid ∧ n ≤ sizeLine ∧ (∀ i h, St i h → (∃ o, h.get? e = some o) ∧ (∃ o, h.get? it = some o) ∧ h.get? l = some ol) ∧
    St 0 s₁.heap ∧ Fr h₀ L s₁.heap m ∧ News h₀ L s₁.heap news ∧ L ≠ e ∧ h₀.get? e = none ∧ L ≠ it ∧ h₀.get? it = none ∧ e ≠ it ∧ (∀ p ∈ news, p.1 ≠ e ∧ p.1 ≠ it) ∧ (l, ol) ∈ news ∧
    CompRestE prog w A h₀ L m env elt x x₂ scope cl s₁ l ol P (Fin news s₁) n 0 [] news
theorem ListComp_E {elt iter : PySem.Expr} {x x₂ : PySem.Str} {px px₂ tp : Pos} {tt : Nat} {scope : Scope} {cl : List (PySem.Str × Addr)} {pos : Pos} {Q : Value → Shared → Prop} (_F₀ : Fr h₀ L s.heap m)
    (hclos : closureFor scope env = pure cl) (hcell : ∀ y ∈ scope.names, y.2 ≠ .cell) (hkind : scope.kind = .function)
    (hnames : ∀ y ∈ scope.names, y.2 = .local → scope.names.lookup y.1 = some .local) (hx : scope.names.lookup x = some .local) (hx₂ : scope.names.lookup x₂ = some .local) (hxx : x ≠ x₂)
    (h : wpAny (model prog w) A (eval iter env) (SrcE prog w A h₀ L m env elt x x₂ scope cl (FinO h₀ L m Q)) E s)
    (hs : ∀ x, foldedSetIterable iter env x = pure x := by intro _; rfl) :
    wpAny (model prog w) A (eval (.ListComp elt [⟨.Tuple [.Name x px, .Name x₂ px₂] tt tp, iter, [], 0⟩] scope pos) env) Q E s := by
  rw [eval_ListComp]
  refine wpAny_comprehension_free (use := none) rfl hs hclos hkind hnames (wpAny_mono h (fun xv s₁ h₁ => ?_) fun _ _ e => e)
  obtain ⟨e, it, l, ol, n, P, St, Mid, news, rfl, hh, W, hsz, hSo, hst, F, N, d1, d2, d3, d4, d5, d6, d7, R⟩ := h₁
  refine W.self 0 _ _ _ hst ?_
  have lt : ∀ b o, s₁.heap.get? b = some o → b < s₁.heap.objs.size := fun b o e => Heap.lt_size e
  refine block_E W hsz hSo hcell hkind hx hx₂ hxx hh hst (fun b hb => ?_) F N d1 d2 d3 d4 d5 d6 d7 R ?_
  · obtain ⟨⟨o1, e1⟩, ⟨o2, e2⟩, e3⟩ := hSo _ _ hst
    simp only [List.mem_cons, List.not_mem_nil, or_false] at hb
    rcases hb with rfl | rfl | rfl
    · exact lt _ _ e1
    · exact lt _ _ e2
    · exact lt _ _ e3
  · intro D C h tk m' ys news' F' N' o1 lt0 hn hC₀ hD₀ hCL hDL hCD offC fin
    refine ⟨m', hn, fun h'' hs'' => fin D h'' tk (F'.change hs'' hCL hC₀) (fun p hp => ?_) o1 lt0⟩
    refine ⟨hs''.extBut _ _ ?_ (N' p hp).1, (N' p hp).2⟩
    rcases List.mem_cons.mp hp with rfl | hp
    · exact Ne.symm hCD
    · exact offC p hp
noncomputable abbrev tupObj (l : List Value) : Obj := { cls := .type "tuple", data := .seq l.toArray }
theorem srcE_tuple {elt : PySem.Expr} {x x₂ : PySem.Str} {scope : Scope} {cl : List (PySem.Str × Addr)} {Fin : List (Addr × Obj) → Shared → List Value → List (Addr × Obj) → Prop} {l : Addr} {its : List Value} {news : List (Addr × Obj)} (hh : A.handled = none)
    (F : Fr h₀ L s.heap m) (N : News h₀ L s.heap news) (hl : (l, tupObj its) ∈ news) (hz : its.length ≤ 1000000)
    (h : ∀ h', CompRestE prog w A h₀ L m env elt x x₂ scope cl { s with heap := h' } l (tupObj its) (fun i v => its[i]? = some v) (Fin news { s with heap := h' }) its.length 0 [] news) :
    wpAny (model prog w) A (call (.type "enumerate") [.ref l]) (SrcE prog w A h₀ L m env elt x x₂ scope cl Fin) E s := by
  have hL : s.heap.IsTuple l its.toArray := ⟨_, (N _ hl).1, rfl, _, rfl⟩
  have hlt : l < s.heap.objs.size := Heap.lt_size (N _ hl).1
  refine call_enumerate_tuple hL fun h' he hit hsz keep => ?_
  have fresh : ∀ a, s.heap.objs.size ≤ a → h₀.get? a = none := fun a ha => by
    cases e : h₀.get? a with
    | none => rfl
    | some o' => exact absurd (Heap.lt_size (F.keep a o' e)) (Nat.not_lt.mpr ha)
  have hL1 : L < s.heap.objs.size := F.ns.lt
  have W0 := WalksT.enumerateD (prog := prog) (w := w) (A := A) (draws_tuple (A := A.in1) hh s.heap.objs.size l (Nat.ne_of_lt hlt) its.toArray) (s.heap.objs.size + 1) (Nat.succ_ne_self _)
    (fun hm => by
      simp only [List.mem_cons, List.not_mem_nil, or_false] at hm
      rcases hm with q | q
      · exact absurd q (Nat.succ_ne_self _)
      · exact absurd q (Nat.ne_of_gt (Nat.lt_succ_of_lt hlt))) (.head _)
  refine ⟨s.heap.objs.size + 1, s.heap.objs.size, l, tupObj its, its.length, fun i v => its[i]? = some v, _, _, news, rfl, hh, walksT_and (ol := _) W0 (List.size_toArray ..) (fun i v hP => by obtain ⟨t, x, hx, rfl⟩ := hP; exact ⟨t, x, by simpa using hx, rfl⟩) (Nat.ne_of_lt (Nat.lt_succ_of_lt hlt)) (Nat.ne_of_lt hlt), by rw [sizeLine_eq]; omega, fun i h st => ?_, ⟨⟨⟨_, he⟩, hit, hL.at fun o e => keep _ o e⟩, keep _ _ (N _ hl).1⟩, F.keeps keep, N.grown keep, ?_, fresh _ (Nat.le_succ _), ?_, fresh _ (Nat.le_refl _), Nat.succ_ne_self _, fun p hp => ?_, hl, h _⟩
  · exact ⟨(let ⟨⟨_, q⟩, _⟩ := st.1; ⟨_, q⟩), (let ⟨_, ⟨o, q, _⟩, _⟩ := st.1; ⟨o, q⟩), st.2⟩
  · exact Nat.ne_of_lt (Nat.lt_succ_of_lt hL1)
  · exact Nat.ne_of_lt hL1
  · have := Heap.lt_size (N p hp).1
    exact ⟨Nat.ne_of_lt (Nat.lt_succ_of_lt this), Nat.ne_of_lt this⟩
theorem srcE_list {elt : PySem.Expr} {x x₂ : PySem.Str} {scope : Scope} {cl : List (PySem.Str × Addr)} {Fin : List (Addr × Obj) → Shared → List Value → List (Addr × Obj) → Prop} {l : Addr} {its : List Value} {k : Nat} {news : List (Addr × Obj)} (hh : A.handled = none)
    (F : Fr h₀ L s.heap m) (N : News h₀ L s.heap news) (hl : (l, listOf its.toArray k) ∈ news) (hz : its.length ≤ 1000000)
    (h : ∀ h', CompRestE prog w A h₀ L m env elt x x₂ scope cl { s with heap := h' } l (listOf its.toArray k) (fun i v => its[i]? = some v) (Fin news { s with heap := h' }) its.length 0 [] news) :
    wpAny (model prog w) A (call (.type "enumerate") [.ref l]) (SrcE prog w A h₀ L m env elt x x₂ scope cl Fin) E s := by
  have hlt : l < s.heap.objs.size := Heap.lt_size (N _ hl).1
  refine call_enumerate_1 (N _ hl).1 fun h' he hit hsz keep => ?_
  have fresh : ∀ a, s.heap.objs.size ≤ a → h₀.get? a = none := fun a ha => by
    cases e : h₀.get? a with
    | none => rfl
    | some o' => exact absurd (Heap.lt_size (F.keep a o' e)) (Nat.not_lt.mpr ha)
  have hL1 : L < s.heap.objs.size := F.ns.lt
  have W0 := WalksT.enumerate (prog := prog) (w := w) (A := A) hh (s.heap.objs.size + 1) s.heap.objs.size l (Nat.succ_ne_self _) (Nat.ne_of_lt (Nat.lt_succ_of_lt hlt)) (Nat.ne_of_lt hlt) its.toArray
  refine ⟨s.heap.objs.size + 1, s.heap.objs.size, l, listOf its.toArray k, its.length, fun i v => its[i]? = some v, _, _, news, rfl, hh, walksT_and (ol := _) W0 (List.size_toArray ..) (fun i v hP => by obtain ⟨t, x, hx, rfl⟩ := hP; exact ⟨t, x, by simpa using hx, rfl⟩) (Nat.ne_of_lt (Nat.lt_succ_of_lt hlt)) (Nat.ne_of_lt hlt), by rw [sizeLine_eq]; omega, fun i h st => ?_, ⟨⟨⟨_, he⟩, hit, ⟨_, keep _ _ (N _ hl).1, rfl, _, rfl⟩⟩, keep _ _ (N _ hl).1⟩, F.keeps keep, N.grown keep, ?_, fresh _ (Nat.le_succ _), ?_, fresh _ (Nat.le_refl _), Nat.succ_ne_self _, fun p hp => ?_, hl, h _⟩
  · exact ⟨(let ⟨⟨_, q⟩, _⟩ := st.1; ⟨_, q⟩), (let ⟨_, ⟨o, q, _⟩, _⟩ := st.1; ⟨o, q⟩), st.2⟩
  · exact Nat.ne_of_lt (Nat.lt_succ_of_lt hL1)
  · exact Nat.ne_of_lt hL1
  · have := Heap.lt_size (N p hp).1
    exact ⟨Nat.ne_of_lt (Nat.lt_succ_of_lt this), Nat.ne_of_lt this⟩
end
end
section
open PySem PySem.W PyProof.Rows PySem.Calls PyProof.Rows.LCg
section
variable {prog : Program} {w : World} {A : Around} {E : Value → Shared → Prop} {s : Shared} {h₀ : Heap} {L : Addr} {m : PySem.Str → Option Value} {env : Env}
theorem restE_ind {elt : PySem.Expr} {x x₂ : PySem.Str} {scope : Scope} {cl : List (PySem.Str × Addr)} {l : Addr} {ol : Obj} {P : Nat → Value → Prop} {Fin : List Value → List (Addr × Obj) → Prop} {n : Nat} {J : Nat → List Value → List (Addr × Obj) → Prop}
    (step : ∀ i v t ys news e oe it oi C oC D m₂ h tk (E' : Value → Shared → Prop), i < n → P i v → J i ys news → NsObj oC m₂ → m₂ x = some (.int (i : Int) t) → m₂ x₂ = some v → Fr h₀ L h m → News h₀ L h ((e, oe) :: (C, oC) :: (D, lst ys) :: (it, oi) :: news) → Off3 e C D ((it, oi) :: news) → Off1 it news → ((@Ne Nat e C) ∧ (@Ne Nat e D) ∧ (@Ne Nat C D)) →
      wpAny (model prog w) A (eval elt (compEnvC scope cl C env)) (CompEnd h₀ L m { s with heap := h, toks := tk } e oe C oC D (lst ys) (KeyIn it oi l ol) (fun y nw => J (i + 1) (ys ++ [y]) nw.tail)) E' { s with heap := h, toks := tk })
    (fin : ∀ ys news, J n ys news → Fin ys news) : ∀ k i ys news, i + k = n → J i ys news → CompRestE prog w A h₀ L m env elt x x₂ scope cl s l ol P Fin k i ys news
  | 0, i, ys, news, hn, hJ => by
    have : i = n := by omega
    subst this
    exact fin _ _ hJ
  | k + 1, i, ys, news, hn, hJ => by
    intro v t e oe it oi C oC D m₂ h tk E' hP hC hx hx2 F N off off1 ne
    refine wpAny_mono (step i v t ys news e oe it oi C oC D m₂ h tk E' (by omega) hP hJ hC hx hx2 F N off off1 ne) (fun y s₂ e => ?_) fun _ _ e => e
    obtain ⟨h', tk', news', rfl, F', N', off', hS, hJ'⟩ := e
    exact ⟨h', tk', news', rfl, F', N', off', hS, restE_ind step fin k (i + 1) (ys ++ [y]) news'.tail (by omega) hJ'⟩
theorem keyIn_mk {it l : Addr} {oi ol : Obj} {r : List (Addr × Obj)} (h : (l, ol) ∈ r) (o : Off1 it r) : KeyIn it oi l ol ((it, oi) :: r) := ⟨r, rfl, h, o⟩
theorem r_sliceInts {value slice : PySem.Expr} {l : Addr} {vs : List Value} {ns : List Int} {vl vu vk : Value} {lo hi st : Option Int} {ops : List Value} {news : List (Addr × Obj)} {Q : Value → Shared → Prop}
    (F : Fr h₀ L s.heap m) (N : News h₀ L s.heap news) (hl : h₀.IsList l vs.toArray) (pl : IsPart vl lo) (pu : IsPart vu hi) (pk : IsPart vk st) (h0 : st ≠ some 0) (hI : IntsAre vs ns)
    (h : ∀ D ws ms h', Fr h₀ L h' m → News h₀ L h' ((D, listOf (List.toArray ws) 0) :: news) → (∀ p ∈ news, p.1 < D) → IntsAre ws ms ∧ ms.length ≤ ns.length → Q (.ref D) { s with heap := h' })
    (hs : subscripted slice false (.ref l) (.ref s.heap.objs.size) = operate ops (getItem (.ref l) (.ref s.heap.objs.size)))
    (ht : ∀ r, letTemporaryGo value (.ref l) r = pure ()) (hsz : ns.length ≤ 1000) :
    wpAny (model prog w) A (subscriptTail value slice (.ref l) (.ref s.heap.objs.size)) Q E { s with heap := s.heap.push { cls := .type "slice", data := .fields #[vl, vu, vk] } } := by
  have hl' : s.heap.IsList l vs.toArray := hl.at fun o e => F.keep _ o e
  refine slice_list3 F N hl' pl pu pk h0 (fun h' F' N' => h _ (slicePick vs.toArray lo hi st).toList (pickNums ns lo hi st) h' F' (by rw [Array.toArray_toList]; exact N') (fun p hp => Nat.lt_succ_of_lt (Heap.lt_size (N p hp).1)) ⟨hI.pick lo hi st, length_pickNums_le hI lo hi st⟩) hs ht (by rw [List.size_toArray, hI.length, sizeLine_eq]; omega)
theorem ints_get {ws : List Value} {ms : List Int} (h : IntsAre ws ms) {i : Nat} {v : Value} (e : ws.toArray[i]? = some v) : ∃ n t, v = Value.int n t := by
  have e' : ws[i]? = some v := by simpa using e
  clear e
  induction h generalizing i with
  | nil => cases e'
  | cons a b _ ih =>
    cases i with
    | zero => cases e'; exact ⟨_, _, rfl⟩
    | succ i => exact ih (by simpa using e')
theorem sum_nonneg : ∀ {l : List Int}, (∀ x ∈ l, 0 ≤ x) → 0 ≤ l.sum
  | [], _ => by simp
  | a :: r, h => by
    have h1 := h a (.head _)
    have h2 := sum_nonneg fun x hx => h x (.tail _ hx)
    rw [List.sum_cons]; omega
theorem off1_ne {D a : Addr} {o : Obj} {l : List (Addr × Obj)} (x : Off1 D l) (h : (a, o) ∈ l) : a ≠ D := off1_mem x _ h
theorem ints3 {vs : List Value} {ns : List Int} (h : IntsAre vs ns) (hl : ns.length = 3) (hn : ∀ x ∈ ns, 0 ≤ x) : ∃ a b c t u v, vs = [Value.int a t, .int b u, .int c v] ∧ 0 ≤ a ∧ 0 ≤ b ∧ 0 ≤ c := by
  rcases h with _ | ⟨a, t, h⟩
  · cases hl
  rcases h with _ | ⟨b, u, h⟩
  · cases hl
  rcases h with _ | ⟨c, v, h⟩
  · cases hl
  rcases h with _ | ⟨d, x, h⟩
  · exact ⟨a, b, c, t, u, v, rfl, hn a (by simp), hn b (by simp), hn c (by simp)⟩
  · simp at hl
theorem news_sub {h : Heap} {l l' : List (Addr × Obj)} (N : News h₀ L h l) (hs : ∀ q ∈ l', q ∈ l) : News h₀ L h l' := fun q hq => N q (hs q hq)
end
end
section
open PySem PySem.W PyProof.Rows PySem.Calls PyProof.Rows.LCg
noncomputable def ringL : List Nat := [38, 60, 62, 34, 13, 10, 9, 122, 38, 60]
noncomputable def R8 (c : Nat) : Prop := c = 38 ∨ c = 60 ∨ c = 62 ∨ c = 34 ∨ c = 13 ∨ c = 10 ∨ c = 9 ∨ c = 122
theorem lit_ring : PySem.Str.ofString "&<>\"\r\n\tz&<" = S ringL := by rfl
theorem ring_three {i : Int} (h0 : 0 ≤ i) (h7 : i < 8) : ∃ x y z, (ringL.drop i.toNat).take ((i + 3) - i).toNat = [x, y, z] ∧ R8 x ∧ R8 y ∧ R8 z ∧ x ≠ y := by
  have e3 : ((i + 3) - i).toNat = 3 := by omega
  rw [e3]
  have : i = 0 ∨ i = 1 ∨ i = 2 ∨ i = 3 ∨ i = 4 ∨ i = 5 ∨ i = 6 ∨ i = 7 := by omega
  rcases this with rfl | rfl | rfl | rfl | rfl | rfl | rfl | rfl <;> exact ⟨_, _, _, rfl, by unfold R8; decide, by unfold R8; decide, by unfold R8; decide, by decide⟩
section
variable {prog : Program} {w : World} {A : Around} {E : Value → Shared → Prop} {s : Shared} {h₀ : Heap} {L : Addr} {m : PySem.Str → Option Value} {news : List (Addr × Obj)} {t : Tok} {Q : Value → Shared → Prop} {value slice : PySem.Expr}
theorem r_ring {x : PySem.Str} {i j : Int} {ui uj : Tok} (F : Fr h₀ L s.heap m) (N : News h₀ L s.heap news) (hx : x = S ringL) (h0 : 0 ≤ i) (h7 : i < 8) (hj : j = i + 3)
    (h : ∀ h' t' k a b c, R8 a → R8 b → R8 c → a ≠ b → Fr h₀ L h' m → News h₀ L h' news → Q (.str (S [a, b, c]) t') { s with heap := h', toks := k })
    (hs : subscripted slice false (.str x t) (.ref s.heap.objs.size) = operate [.ref s.heap.objs.size, .str x t] (getItem (.str x t) (.ref s.heap.objs.size)) := by with_unfolding_all rfl)
    (ht : ∀ r, letTemporaryGo value (.str x t) r = pure () := by intro _; with_unfolding_all rfl) :
    wpAny (model prog w) A (subscriptTail value slice (.str x t) (.ref s.heap.objs.size)) Q E { s with heap := s.heap.push { cls := .type "slice", data := .fields #[.int i ui, .int j uj, .none] } } := by
  subst hx hj
  refine slice_strN_ss F N (fun h' t' k F' N' => ?_) hs ht (by rw [S_len, sizeLine_eq]; decide)
  rw [S_slice ringL h0 (by omega) (by have : ringL.length = 10 := rfl; omega)]
  obtain ⟨a, b, c, e, ha, hb, hc, hab⟩ := ring_three h0 h7
  rw [e]
  exact h h' t' k a b c ha hb hc hab F' N'
end
/-- the writers: address, what it does, marks, figures -/
noncomputable def wrT : List (Nat × (List Nat → List Nat) × List Nat × List Nat × List Nat × List Nat) :=
  [(77, wr0, [38, 60, 62], [], [], []), (84, wr1, [38, 60, 62, 34, 13, 10, 9], [35, 49, 51], [35, 49, 48], [35, 48, 57]), (91, wr2, [38, 62, 34], [], [], []), (98, wr3, [38, 60, 62, 13], [35, 120, 68], [], []), (105, wr4, [38, 60, 34, 13, 10, 9], [35, 120, 68], [35, 120, 65], [35, 120, 57])]
noncomputable def Pc (x y z : Nat) (p : List Nat) : Prop := (∀ c ∈ p, c = x ∨ c = y ∨ c = z) ∧ p.length ≤ 2
theorem getD3 (x y z : Nat) {n : Nat} (h : n < 3) : [x, y, z].getD n 0 = x ∨ [x, y, z].getD n 0 = y ∨ [x, y, z].getD n 0 = z := by
  have : n = 0 ∨ n = 1 ∨ n = 2 := by omega
  rcases this with rfl | rfl | rfl <;> simp
theorem piece_pc (x y z : Nat) {f : Int} (h0 : 0 ≤ f) (h : f ≤ 12) : Pc x y z (pieceL [x, y, z] f) := by
  unfold pieceL Pc
  split
  · simp
  · split
    · refine ⟨fun c hc => ?_, by simp⟩
      rw [List.mem_singleton.mp hc]; exact getD3 x y z (by omega)
    · refine ⟨fun c hc => ?_, by simp⟩
      simp only [List.mem_cons, List.not_mem_nil, or_false] at hc
      rcases hc with rfl | rfl
      · exact getD3 x y z (by omega)
      · exact getD3 x y z (by omega)
theorem piece_ne (x y z : Nat) {f : Int} (h0 : 1 ≤ f) : pieceL [x, y, z] f ≠ [] := by
  unfold pieceL
  rw [if_neg (by omega)]
  split <;> simp
noncomputable def pageL (p0 p1 p2 : List Nat) (w0 w1 w2 : Int) : List Nat := (spelledL p0 w0 ++ [10]) ++ ((spelledL p1 w1 ++ [10]) ++ (spelledL p2 w2 ++ [10]))
theorem spelled_len {p : List Nat} (f : Int) (h : p.length ≤ 2) : (spelledL p f).length ≤ 20 := by
  unfold spelledL
  split
  · have : (rep 34 [92, 34] p).length ≤ 6 * 2 := rep_len (by decide) h
    simp only [List.length_append, List.length_cons, List.length_nil]
    omega
  · have := sum_le (f := fun c => [92, c]) (B := 2) (fun _ => by simp) p
    rw [List.flatMap_def, List.length_flatten]
    exact Nat.le_trans this (by omega)
theorem fit_sp {p : List Nat} {f : Int} (h : ∀ f, (spelledL p f).length ≤ 20) : (spelledL p f).length + ([10] : List Nat).length ≤ 1000000 := by
  have := h f
  simp only [List.length_cons, List.length_nil]
  omega
theorem page_len {p0 p1 p2 : List Nat} (w0 w1 w2 : Int) (h0 : p0.length ≤ 2) (h1 : p1.length ≤ 2) (h2 : p2.length ≤ 2) : (pageL p0 p1 p2 w0 w1 w2).length ≤ 63 := by
  have e0 := spelled_len w0 h0
  have e1 := spelled_len w1 h1
  have e2 := spelled_len w2 h2
  unfold pageL
  simp only [List.length_append, List.length_cons, List.length_nil]
  omega
end
section
open PySem PySem.W PyProof.Rows PySem.Calls PyProof.Rows.LCg
/-- what is left of the page -/
noncomputable def nx (p : List Nat) (f : Int) (rest : List Nat) : List Nat := if f = 0 ∨ p = [] then 10 :: rest else rest
noncomputable def rstL (p0 p1 p2 : List Nat) (w0 w1 w2 : Int) : Nat → List Nat
  | 0 => pageL p0 p1 p2 w0 w1 w2
  | 1 => nx p0 w0 (spelledL p1 w1 ++ 10 :: (spelledL p2 w2 ++ [10]))
  | 2 => nx p1 w1 (spelledL p2 w2 ++ [10])
  | _ => nx p2 w2 []
theorem nx_tok (p : List Nat) (f : Int) (rest : List Nat) : getTok (nx p f rest) = getTok rest := by
  unfold nx
  split
  · exact getTok_nl rest
  · rfl
theorem nx_suf (p : List Nat) (f : Int) (rest : List Nat) : nx p f rest <:+ 10 :: rest := by
  unfold nx
  split
  · exact List.suffix_refl _
  · exact List.suffix_cons _ _
section
variable {p0 p1 p2 : List Nat} {w0 w1 w2 : Int}
theorem rst_suf (i : Nat) : rstL p0 p1 p2 w0 w1 w2 i <:+ pageL p0 p1 p2 w0 w1 w2 := by
  have e : pageL p0 p1 p2 w0 w1 w2 = spelledL p0 w0 ++ (10 :: (spelledL p1 w1 ++ 10 :: (spelledL p2 w2 ++ [10]))) := by simp [pageL]
  have s2 : (10 :: (spelledL p2 w2 ++ [10])) <:+ (10 :: (spelledL p1 w1 ++ 10 :: (spelledL p2 w2 ++ [10]))) := (List.suffix_append (spelledL p1 w1) _).trans (List.suffix_cons _ _)
  have s3 : [10] <:+ (10 :: (spelledL p2 w2 ++ [10])) := (List.suffix_append (spelledL p2 w2) _).trans (List.suffix_cons _ _)
  have s1 := List.suffix_append (spelledL p0 w0) (10 :: (spelledL p1 w1 ++ 10 :: (spelledL p2 w2 ++ [10])))
  rw [e]
  match i with
  | 0 => show pageL p0 p1 p2 w0 w1 w2 <:+ _; rw [e]; exact List.suffix_refl _
  | 1 => exact (nx_suf _ _ _).trans s1
  | 2 => exact ((nx_suf _ _ _).trans s2).trans s1
  | n + 3 => exact (((nx_suf _ _ _).trans s3).trans s2).trans s1
theorem tok_step (h0 : ∀ c ∈ p0, c ≠ 92) (h1 : ∀ c ∈ p1, c ≠ 92) (h2 : ∀ c ∈ p2, c ≠ 92) (i : Nat) (hi : i < 3) : getTok (rstL p0 p1 p2 w0 w1 w2 i) = some ([p0, p1, p2].getD i [], rstL p0 p1 p2 w0 w1 w2 (i + 1)) := by
  have : i = 0 ∨ i = 1 ∨ i = 2 := by omega
  rcases this with rfl | rfl | rfl
  · show getTok (pageL p0 p1 p2 w0 w1 w2) = _
    have e : pageL p0 p1 p2 w0 w1 w2 = spelledL p0 w0 ++ 10 :: (spelledL p1 w1 ++ 10 :: (spelledL p2 w2 ++ [10])) := by simp [pageL]
    rw [e, getTok_spelled _ _ _ h0]; rfl
  · show getTok (nx p0 w0 _) = _
    rw [nx_tok, getTok_spelled _ _ _ h1]; rfl
  · show getTok (nx p1 w1 _) = _
    rw [nx_tok, getTok_spelled _ _ _ h2]; rfl
theorem tok_last : getTok (rstL p0 p1 p2 w0 w1 w2 3) = some ([], []) := by
  show getTok (nx p2 w2 []) = _
  rw [nx_tok]; rfl
theorem r8_lt {c : Nat} (h : R8 c) : c < 128 := by unfold R8 at h; omega
theorem pc_r8 {x y z : Nat} {p : List Nat} (rx : R8 x) (ry : R8 y) (rz : R8 z) (h : Pc x y z p) : ∀ c ∈ p, R8 c := fun c hc => by
  rcases h.1 c hc with rfl | rfl | rfl <;> assumption
theorem ne92 {x y z : Nat} {p : List Nat} (rx : R8 x) (ry : R8 y) (rz : R8 z) (h : Pc x y z p) : ∀ c ∈ p, c ≠ 92 := fun c hc => by
  have := pc_r8 rx ry rz h c hc
  unfold R8 at this; omega
theorem spelled_lt {p : List Nat} {f : Int} (h : ∀ c ∈ p, R8 c) : ∀ c ∈ spelledL p f, c < 128 := by
  intro c hc
  unfold spelledL at hc
  split at hc
  · simp only [List.mem_append, List.mem_singleton, rep, List.mem_flatMap] at hc
    rcases hc with (rfl | ⟨k, hk, hc⟩) | rfl
    · omega
    · split at hc
      · simp only [List.mem_cons, List.not_mem_nil, or_false] at hc; omega
      · rw [List.mem_singleton.mp hc]; exact r8_lt (h k hk)
    · omega
  · simp only [List.mem_flatMap] at hc
    obtain ⟨k, hk, hc⟩ := hc
    simp only [List.mem_cons, List.not_mem_nil, or_false] at hc
    rcases hc with rfl | rfl
    · omega
    · exact r8_lt (h _ hk)
theorem page_lt (h0 : ∀ c ∈ p0, R8 c) (h1 : ∀ c ∈ p1, R8 c) (h2 : ∀ c ∈ p2, R8 c) : (pageL p0 p1 p2 w0 w1 w2).all (· < 0x110000) = true := by
  rw [List.all_eq_true]
  intro c hc
  have : c < 128 := by
    simp only [pageL, List.mem_append, List.mem_singleton] at hc
    rcases hc with (hc | rfl) | (hc | rfl) | (hc | rfl)
    · exact spelled_lt h0 c hc
    · omega
    · exact spelled_lt h1 c hc
    · omega
    · exact spelled_lt h2 c hc
    · omega
  exact decide_eq_true (by omega)
theorem suf_all {a b : List Nat} {q : Nat → Bool} (h : a <:+ b) (hb : b.all q = true) : a.all q = true := by
  rw [List.all_eq_true] at hb ⊢
  exact fun c hc => hb c (h.mem hc)
end
theorem con_own {h₀ h h' : Heap} {L : Addr} {own pre post : List (Addr × Obj)} (N : News h₀ L h own) (K : KeptBut (pre.map (·.1)) h h') (N' : News h₀ L h' post) (hd : ∀ p ∈ own, p.1 ∉ pre.map (·.1)) : News h₀ L h' (own ++ post) := by
  intro q hq
  rcases List.mem_append.mp hq with hq | hq
  · exact ⟨K _ _ (N q hq).1 (hd q hq), (N q hq).2⟩
  · exact N' q hq
theorem rdr_ge {l P r ln tl pb kp lf kl} (ok : RP.Ok r) : ∀ a ∈ (rdr l P r ln tl pb kp lf kl).map (·.1), @LE.le Nat _ r.aC a := by
  obtain ⟨hd1, hd2, hd3, o1, o2, o3, o4, o5, o6, o7, o8, o9⟩ := ok
  intro a ha
  simp only [rdr, rdr7, List.map_cons, List.map_nil, List.mem_cons, List.not_mem_nil, or_false] at ha
  rcases ha with rfl | rfl | rfl | rfl | rfl | rfl | rfl | rfl | rfl | rfl <;> omega
theorem rdr_le2 {l P r ln tl pb kp lf kl} (ok : RP.Ok r) : ∀ a ∈ (rdr l P r ln tl pb kp lf kl).map (·.1), @LE.le Nat _ a r.aP := by
  obtain ⟨hd1, hd2, hd3, o1, o2, o3, o4, o5, o6, o7, o8, o9⟩ := ok
  intro a ha
  simp only [rdr, rdr7, List.map_cons, List.map_nil, List.mem_cons, List.not_mem_nil, or_false] at ha
  rcases ha with rfl | rfl | rfl | rfl | rfl | rfl | rfl | rfl | rfl | rfl <;> omega
theorem notin_lt {l P r ln tl pb kp lf kl} (ok : RP.Ok r) {a : Addr} (h : @LT.lt Nat _ a r.aC) : a ∉ (rdr l P r ln tl pb kp lf kl).map (·.1) := fun hm => absurd (rdr_ge ok a hm) (Nat.not_le.mpr h)
theorem notin_gt {l P r ln tl pb kp lf kl} (ok : RP.Ok r) {a : Addr} (h : @LT.lt Nat _ r.aP a) : a ∉ (rdr l P r ln tl pb kp lf kl).map (·.1) := fun hm => absurd (rdr_le2 ok a hm) (Nat.not_le.mpr h)
theorem notin_off {l P r ln tl pb kp lf kl} {a : Addr} (h : ∀ q ∈ rdr l P r ln tl pb kp lf kl, q.1 ≠ a) : a ∉ (rdr l P r ln tl pb kp lf kl).map (·.1) := fun hm => by
  obtain ⟨q, hq, e⟩ := List.mem_map.mp hm
  exact h q hq e
theorem strs3 {vs : List Value} {a b c : List Nat} (h : StrsAre vs [a, b, c]) : ∃ t u v, vs = [Value.str (S a) t, .str (S b) u, .str (S c) v] := by
  rcases h with _ | ⟨_, t, h⟩
  rcases h with _ | ⟨_, u, h⟩
  rcases h with _ | ⟨_, v, h⟩
  cases h
  exact ⟨t, u, v, rfl⟩
theorem take_next {α : Type} {l : List α} {d : α} {i : Nat} (h : i < l.length) : l.take (i + 1) = l.take i ++ [l.getD i d] := by
  rw [List.take_add_one, List.getElem?_eq_getElem h, List.getD_eq_getElem?_getD, List.getElem?_eq_getElem h]; rfl
section
variable {prog : Program} {w : World} {A : Around} {E : Value → Shared → Prop} {s : Shared} {h₀ : Heap} {L : Addr} {m : PySem.Str → Option Value} {env : Env}
/-- the turns of a comprehension with a test, by an invariant -/
theorem rest_indT {ct elt : PySem.Expr} {x : PySem.Str} {scope : Scope} {cl : List (PySem.Str × Addr)} {Sx : List (Addr × Obj) → Prop} {P : Nat → Value → Prop} {Fin : List Value → List (Addr × Obj) → Prop} {n : Nat} {J : Nat → List Value → List (Addr × Obj) → Prop}
    (step : ∀ i v ys news I oI C oC D m₂ h tk (E' : Value → Shared → Prop), i < n → P i v → J i ys news → LCg.NsObj oC m₂ → m₂ x = some v → Fr h₀ L h m → News h₀ L h ((I, oI) :: (C, oC) :: (D, LCg.lst ys) :: news) → LCg.Off3 I C D news → ((@Ne Nat I C) ∧ (@Ne Nat I D) ∧ (@Ne Nat C D)) →
      wpAny (model prog w) A (isTrue ct (compEnvC scope cl C env) (eval ct (compEnvC scope cl C env))) (fun ok s' => if ok = true then
        wpAny (model prog w) A (eval elt (compEnvC scope cl C env)) (LCg.CompEnd h₀ L m { s with heap := h, toks := tk } I oI C oC D (LCg.lst ys) Sx (fun y news' => J (i + 1) (ys ++ [y]) news')) E' s'
        else LCg.CompEnd h₀ L m { s with heap := h, toks := tk } I oI C oC D (LCg.lst ys) Sx (fun _ news' => J (i + 1) ys news') Value.none s') E' { s with heap := h, toks := tk })
    (fin : ∀ ys news, J n ys news → Fin ys news) : ∀ k i ys news, i + k = n → J i ys news → LCt.CompRestT prog w A h₀ L m env ct elt x scope cl s Sx P Fin k i ys news
  | 0, i, ys, news, hn, hJ => by
    have : i = n := by omega
    subst this
    exact LCt.CompRestT.zero (fin _ _ hJ)
  | k + 1, i, ys, news, hn, hJ => by
    refine LCt.CompRestT.succ fun v I oI C oC D m₂ h tk E' hP hC hx F N off ne => ?_
    refine wpAny_mono (step i v ys news I oI C oC D m₂ h tk E' (by omega) hP hJ hC hx F N off ne) (fun ok s₂ e => ?_) fun _ _ e => e
    cases ok with
    | true =>
      simp only [if_true] at e ⊢
      refine wpAny_mono e (fun y s₃ e => ?_) fun _ _ e => e
      obtain ⟨h', tk', news', rfl, F', N', off', hS, hJ'⟩ := e
      exact ⟨h', tk', news', rfl, F', N', off', hS, rest_indT step fin k (i + 1) (ys ++ [y]) news' (by omega) hJ'⟩
    | false =>
      simp only [Bool.false_eq_true, if_false] at e ⊢
      obtain ⟨h', tk', news', rfl, F', N', off', hS, hJ'⟩ := e
      exact ⟨h', tk', news', rfl, F', N', off', hS, rest_indT step fin k (i + 1) ys news' (by omega) hJ'⟩
end
theorem lap_test {t : List Nat} {i : Nat} {b : Bool} (hi : i < t.length) (h : (S (t.take (1 + (i : Int)).toNat) == S (t.drop ((t.length : Int) - (1 + (i : Int))).toNat)) = b) : lapB t (i + 1) = b := by
  have e1 : ((t.length : Int) - (1 + (i : Int))).toNat = t.length - (i + 1) := by omega
  have e2 : (1 + (i : Int)).toNat = i + 1 := by omega
  rw [e1, e2, S_beq] at h
  rw [← h, lapB, Bool.eq_iff_iff, beq_iff_eq, beq_iff_eq]
  exact ⟨fun q => q.symm, fun q => q.symm⟩
theorem laps_get {pl : List Value} {t : List Nat} (h : IntsAre pl (nI (lapsL t))) {i : Nat} {v : Value} (e : pl.toArray[i]? = some v) : ∃ (k : Nat) (u : Tok), v = Value.int (k : Int) u ∧ (lapsL t)[i]? = some k ∧ lapB t k = true ∧ 1 ≤ k ∧ k ≤ t.length := by
  have key : ∀ {l : List Nat} {pl : List Value} {i : Nat}, IntsAre pl (nI l) → pl[i]? = some v → ∃ (k : Nat) (u : Tok), v = Value.int (k : Int) u ∧ l[i]? = some k := by
    intro l
    induction l with
    | nil => intro pl i h e; cases h; cases e
    | cons a l ih =>
      intro pl i h e
      cases h with
      | cons n u h =>
        cases i with
        | zero => cases e; exact ⟨a, u, rfl, rfl⟩
        | succ i => exact ih h (by simpa using e)
  obtain ⟨k, u, rfl, hk⟩ := key h (by simpa using e)
  have hm := List.mem_of_getElem? hk
  unfold lapsL lapsTo at hm
  rw [List.mem_filter, List.mem_map] at hm
  obtain ⟨⟨j, hj, rfl⟩, hb⟩ := hm
  have := List.mem_range.mp hj
  exact ⟨j + 1, u, rfl, hk, hb, by omega, by omega⟩
theorem room_ell {t : List Nat} {k : Nat} (hb : lapB t k = true) (h1 : k ≤ t.length) : ellB (t.take ((k : Int)).toNat) (t.take ((k : Int)).toNat) t = decide (2 * (k : Int) ≤ (t.length : Int)) := by
  have e : ((k : Int)).toNat = k := by omega
  rw [e]
  unfold lapB at hb
  have hb := eq_of_beq hb
  unfold ellB
  rw [Bool.eq_iff_iff]
  simp only [Bool.and_eq_true, decide_eq_true_eq, List.isPrefixOf_iff_prefix, List.isSuffixOf_iff_suffix, List.length_take]
  constructor
  · rintro ⟨_, h⟩; omega
  · intro h
    refine ⟨⟨List.take_prefix _ _, ?_⟩, by omega⟩
    rw [← hb]; exact List.drop_suffix _ _
theorem mem_laps {t : List Nat} {k : Nat} (h1 : 1 ≤ k) (h2 : k ≤ t.length) : k ∈ lapsL t ↔ lapB t k = true := by
  unfold lapsL lapsTo
  rw [List.mem_filter, List.mem_map]
  constructor
  · exact fun h => h.2
  · exact fun h => ⟨⟨k - 1, List.mem_range.mpr (by omega), by omega⟩, h⟩
theorem ahead_ell {t : List Nat} {i : Nat} (hi : i < t.length) : ellB [] (t.take (1 + (i : Int)).toNat) t = decide ((1 + (i : Int)) ∈ nI (lapsL t)) := by
  have e2 : (1 + (i : Int)).toNat = i + 1 := by omega
  have e3 : ((1 + (i : Int)) ∈ nI (lapsL t)) ↔ (i + 1 ∈ lapsL t) := by
    simp only [nI, List.mem_map]
    constructor
    · rintro ⟨a, ha, e⟩
      have : a = i + 1 := by omega
      exact this ▸ ha
    · exact fun h => ⟨i + 1, h, by omega⟩
  rw [e2, Bool.eq_iff_iff, decide_eq_true_eq, e3, mem_laps (by omega) (by omega)]
  unfold ellB lapB
  simp only [Bool.and_eq_true, decide_eq_true_eq, beq_iff_eq, List.isPrefixOf_iff_prefix, List.isSuffixOf_iff_suffix, List.length_take, List.length_nil]
  constructor
  · rintro ⟨⟨_, h⟩, _⟩
    have := List.suffix_iff_eq_drop.mp h
    rw [List.length_take, Nat.min_eq_left (by omega)] at this
    exact this.symm
  · intro h
    refine ⟨⟨List.nil_prefix, ?_⟩, by omega⟩
    rw [← h]; exact List.drop_suffix _ _
theorem any_laps (l : List Int) (a : Int) : decide (a ∈ l) = l.any fun x => x == a := by
  rw [Bool.eq_iff_iff, decide_eq_true_eq, List.any_eq_true]
  constructor
  · exact fun h => ⟨a, h, beq_self_eq_true a⟩
  · rintro ⟨x, hx, e⟩
    exact eq_of_beq e ▸ hx
theorem ahead_ell2 {t : List Nat} {i : Nat} (hi : i < t.length) : ellB [] (t.take (1 + (i : Int)).toNat) t = (nI (lapsL t)).any fun x => x == 1 + (i : Int) := (ahead_ell hi).trans (any_laps _ _)
theorem S_count (x : List Nat) (c : Nat) : Txt.count (S x) (S [c]) = ((x.count c : Nat) : Int) := by
  have e : Txt.count (S x) (S [c]) = PyProof.Rows.cnt c (S x).cps.toList := PyProof.Rows.count_is (S x) c
  rw [e, S_cps]
  clear e
  induction x with
  | nil => rfl
  | cons a r ih =>
    rw [PyProof.Rows.cnt_cons, ih, List.count_cons]
    by_cases h : a = c
    · simp [h]; omega
    · simp [h]
section
variable {prog : Program} {w : World} {A : Around} {E : Value → Shared → Prop} {s : Shared} {t u : Tok} {Q : Value → Shared → Prop}
theorem r_count {x : List Nat} {y : PySem.Str} {c : Nat} (hy : y = S [c]) (h : ∀ t' k, Q (.int ((x.count c : Nat) : Int) t') { s with toks := k }) : wpAny (model prog w) A (call (.builtin "str.count") [.str (S x) t, .str y u]) Q E s := by
  subst hy
  exact SC.count (by rw [S_count]; exact h _ _)
theorem r_ne_same {a b : Addr} {xs ys : List Value} {ns : List (List Nat)} (ha : s.heap.IsList a xs.toArray) (hb : s.heap.IsList b ys.toArray) (hi : StrsAre xs ns) (hj : StrsAre ys ns) (o1 : Ok8 ns) (hu : A.units + 64 < cLine) (h : Q (.bool false) s) :
    wpAny (model prog w) A (compareOp .NotEq (.ref a) (.ref b)) Q E s :=
  r_ne_strs ha hb hi hj o1 o1 hu (by rw [decide_eq_true rfl]; exact h)
theorem r_neS {x y : PySem.Str} {b : Bool} (e : (!(x == y)) = b) (h : Q (.bool b) s) : wpAny (model prog w) A (compareOp .NotEq (.str x t) (.str y u)) Q E s := by
  subst e
  refine PyProof.Rows.ne_str ?_
  exact h
theorem r_neI {a b : Int} (e : a = b) (h : Q (.bool false) s) : wpAny (model prog w) A (compareOp .NotEq (.int a t) (.int b u)) Q E s := by
  subst e
  refine PyProof.Rows.ne_int ?_
  simpa using h
end
theorem ok8_ps {p0 p1 p2 : List Nat} (h0 : ∀ c ∈ p0, R8 c) (h1 : ∀ c ∈ p1, R8 c) (h2 : ∀ c ∈ p2, R8 c) : Ok8 [p0, p1, p2] := by
  intro x hx
  rw [List.all_eq_true]
  intro c hc
  have : c < 128 := by
    simp only [List.mem_cons, List.not_mem_nil, or_false] at hx
    rcases hx with rfl | rfl | rfl
    · exact r8_lt (h0 c hc)
    · exact r8_lt (h1 c hc)
    · exact r8_lt (h2 c hc)
  exact decide_eq_true (by omega)
theorem r_neInts_same {prog : Program} {w : World} {A : Around} {E : Value → Shared → Prop} {s : Shared} {Q : Value → Shared → Prop} {a b : Addr} {xs ys : List Value} {ns : List Int} (ha : s.heap.IsList a xs.toArray) (hi : IntsAre xs ns) (hb : s.heap.IsList b ys.toArray) (hj : IntsAre ys ns) (hu : A.units + 64 < cLine) (h : Q (.bool false) s) :
    wpAny (model prog w) A (compareOp .NotEq (.ref a) (.ref b)) Q E s := ne_intsK ha hi hb hj hu (by rw [decide_eq_true rfl]; exact h)
theorem keep_same {h₀ h h' : Heap} {L G : Addr} {o : Obj} {l : List (Addr × Obj)} (N : News h₀ L h l) (hm : (G, o) ∈ l) (K : KeptBut ([(G, o)].map (·.1)) h h') (N' : News h₀ L h' [(G, o)]) : News h₀ L h' l := by
  intro q hq
  by_cases e : q.1 ∈ [G]
  · have e1 : q.1 = G := List.mem_singleton.mp e
    refine ⟨?_, (N q hq).2⟩
    have h1 := (N' _ (.head _)).1
    have h2 := (N (G, o) hm).1
    have h3 := (N q hq).1
    dsimp only at h1 h2
    rw [e1] at h3 ⊢
    rw [h2] at h3
    exact h1.trans h3
  · exact ⟨K _ _ (N q hq).1 e, (N q hq).2⟩
theorem written_len {mk f0 f1 f2 x : List Nat} (h0 : f0.length ≤ 5) (h1 : f1.length ≤ 5) (h2 : f2.length ≤ 5) (hx : x.length ≤ 9) : (x.flatMap (wrL mk f0 f1 f2)).length ≤ 63 := by
  rw [List.flatMap_def, List.length_flatten]
  have := sum_le (f := wrL mk f0 f1 f2) (B := 7) (wrL_len h0 h1 h2) x
  exact Nat.le_trans this (by omega)
end
section
open PySem PySem.W PyProof.Rows PySem.Calls PyProof.Rows.LCg
/-- the longest lap but the whole -/
noncomputable def bord (t : List Nat) : Nat := (lapsL t).getD ((lapsL t).length - 2) 0
noncomputable def stp (t : List Nat) : Nat := t.length - bord t
noncomputable def nxt (t : List Nat) : List Nat := if 2 * stp t ≤ t.length then t.take (stp t + t.length % stp t) else t.drop (stp t)
noncomputable def chainL : Nat → List Nat → List (Nat × Nat) → List (Nat × Nat) × List Nat
  | 0, t, ch => (ch, t)
  | f + 1, t, ch => if 1 < (lapsL t).length then chainL f (nxt t) (ch ++ [(t.length, stp t)]) else (ch, t)
noncomputable def rowL (b : Nat) (core : List Nat) (n p last : Nat) : List Nat := core ++ List.replicate (2 * p - n - 1) b ++ [last] ++ core
/-- is the longest lap but the whole as long as the core? -/
noncomputable def fitB (core row : List Nat) : Bool := decide (2 ≤ (lapsL row).length) && (bord row == core.length)
noncomputable def mkRow (a b : Nat) (core : List Nat) (n p : Nat) : List Nat :=
  if fitB core (rowL b core n p b) = true then rowL b core n p b else if fitB core (rowL b core n p a) = true then rowL b core n p a else []
noncomputable def back1 (a b : Nat) (made : List Nat) (np : Nat × Nat) : List Nat :=
  if 2 * np.2 ≤ np.1 then (List.replicate (np.1 / np.2) (made.take np.2)).flatten ++ made.take (np.1 % np.2) else mkRow a b made np.1 np.2
noncomputable def twoL (t : List Nat) (a b : Nat) : List Nat :=
  (chainL t.length t []).1.reverse.foldl (back1 a b) (a :: List.replicate ((chainL t.length t []).2.length - 1) b)
theorem lapsTo_sorted (t : List Nat) : ∀ i, (lapsTo t i).Pairwise (· < ·) := by
  intro i
  unfold lapsTo
  refine List.Pairwise.filter _ ?_
  rw [List.pairwise_map]
  exact List.Pairwise.imp (fun h => Nat.add_lt_add_right h 1) List.pairwise_lt_range
theorem laps_mem {t : List Nat} {k : Nat} (h : k ∈ lapsL t) : 1 ≤ k ∧ k ≤ t.length ∧ lapB t k = true := by
  unfold lapsL lapsTo at h
  rw [List.mem_filter, List.mem_map] at h
  obtain ⟨⟨j, hj, rfl⟩, hb⟩ := h
  have := List.mem_range.mp hj
  exact ⟨by omega, by omega, hb⟩
theorem bord_lt {t : List Nat} (h : 1 < (lapsL t).length) : 1 ≤ bord t ∧ bord t < t.length ∧ lapB t (bord t) = true := by
  have h2 : (lapsL t).length - 2 < (lapsL t).length := by omega
  have h1 : (lapsL t).length - 1 < (lapsL t).length := by omega
  have e : bord t = (lapsL t)[(lapsL t).length - 2] := by
    unfold bord; rw [List.getD_eq_getElem?_getD, List.getElem?_eq_getElem h2]; rfl
  have m2 := laps_mem (List.getElem_mem h2)
  have m1 := laps_mem (List.getElem_mem h1)
  have lt : (lapsL t)[(lapsL t).length - 2] < (lapsL t)[(lapsL t).length - 1] := List.pairwise_iff_getElem.mp (lapsTo_sorted t t.length) _ _ h2 h1 (by omega)
  rw [← e] at m2 lt
  exact ⟨m2.1, by omega, m2.2.2⟩
theorem stp_pos {t : List Nat} (h : 1 < (lapsL t).length) : 1 ≤ stp t ∧ stp t < t.length := by
  have := bord_lt h
  unfold stp; omega
theorem nxt_lt {t : List Nat} (h : 1 < (lapsL t).length) : (nxt t).length < t.length ∧ 1 ≤ (nxt t).length := by
  have hs := stp_pos h
  unfold nxt
  split
  · rename_i h2
    rw [List.length_take]
    have hm : t.length % stp t < stp t := Nat.mod_lt _ (by omega)
    have : stp t + t.length % stp t < t.length ∨ stp t + t.length % stp t = t.length := by
      have hd := Nat.div_add_mod t.length (stp t)
      have : 2 ≤ t.length / stp t := (Nat.le_div_iff_mul_le (by omega)).mpr (by omega)
      have : stp t * 2 ≤ stp t * (t.length / stp t) := Nat.mul_le_mul_left _ this
      omega
    have hd := Nat.div_add_mod t.length (stp t)
    have h3 : 2 ≤ t.length / stp t := (Nat.le_div_iff_mul_le (by omega)).mpr (by omega)
    have h4 : stp t * 2 ≤ stp t * (t.length / stp t) := Nat.mul_le_mul_left _ h3
    omega
  · rw [List.length_drop]; omega
section
variable {prog : Program} {w : World} {A : Around} {E : Value → Shared → Prop} {s : Shared} {h₀ : Heap}
noncomputable def TurnA (prog : Program) (w : World) (A : Around) (env : Env) (target : PySem.Expr) (body : List Stmt) (Q : Flow → Shared → Prop) (E : Value → Shared → Prop) (I : Nat → Shared → Prop) (n : Nat) (it : Value) (r : Option Value) (s₁ : Shared) : Prop :=
  match r with
  | none => Q .next s₁
  | some v => wpAny (model prog w) A (letOwnedTupleGo target it v) (fun _ s₁' => wpAny (model prog w) A (assign target env v) (fun _ s₂ =>
      wpAny (model prog w) A (execs body env) (fun f s₃ => match f with | .next | .cont => Again I n s₃ | .brk => Q .next s₃ | .ret v => Q (.ret v) s₃) E s₂) E s₁') E s₁
noncomputable def LoopA (prog : Program) (w : World) (A : Around) (env : Env) (target : PySem.Expr) (body : List Stmt) (Q : Flow → Shared → Prop) (E : Value → Shared → Prop) (it : Value) (s₂ : Shared) : Prop :=
  ∃ (I : Nat → Shared → Prop) (n : Nat), I n s₂ ∧ ∀ n s, I n s → wpAny (model prog w) A (pyNext it) (TurnA prog w A env target body Q E I n it) E s
theorem For_ownA {env : Env} {Q : Flow → Shared → Prop} {target : PySem.Expr} {pos : Pos} {iter : PySem.Expr} {body : List Stmt}
    (h : wpAny (model prog w) A (eval iter env) (fun xv s₁ => wpAny (model prog w) A (pyIter xv) (fun it s₂ => LoopA prog w A env target body Q E it s₂) E s₁) E s)
    (hs : ∀ x, foldedSetIterable iter env x = pure x := by intro _; rfl)
    (hE : PassesOwn (model prog w) A env E := by passes_own) :
    wpAny (model prog w) A (exec (.For target iter body [] pos) env) Q E s := by
  refine wpAny_For (wpAny_mono h (fun xv s₁ h₁ => wpAny_mono h₁ (fun it s₂ h₂ => ?_) fun _ _ e => e) fun _ _ e => e) hs
  obtain ⟨I, n, hI, turn⟩ := h₂
  refine codeAny_forLoop_any (R := fun r s' => match r with | .ok f => Q f s' | .error e => cameBackBy (model prog w) A env E e s') I (fun n s hI => ?_) n hI
  refine wpAny_mono (wpAny_passesOwn hE (turn n s hI)) (fun r s₁ h₁ => ?_) fun _ _ e => e
  cases r with
  | none => exact wpAny_execs_nil h₁
  | some v =>
    refine wpAny_mono (wpAny_passesOwn hE h₁) (fun _ s₁' h₁' => ?_) fun _ _ e => e
    refine wpAny_mono (wpAny_passesOwn hE h₁') (fun _ s₂ h₂ => ?_) fun _ _ e => e
    refine wpAny_mono (wpAny_passesOwn hE h₂) (fun f s₃ h₃ => ?_) fun _ _ e => e
    cases f <;> exact h₃
end
theorem head_addr {h₀ h : Heap} {L D : Addr} {o : Obj} {l : List (Addr × Obj)} (_N : News h₀ L h ((D, o) :: l)) : ∃ D' : Addr, D' = D := ⟨D, rfl⟩
section
variable {prog : Program} {w : World} {A : Around} {E : Value → Shared → Prop} {s : Shared} {Q : Value → Shared → Prop}
theorem r_lenI {l : Addr} {vs : List Value} {ns : List Nat} (hl : s.heap.IsList l vs.toArray) (hi : IntsAre vs (nI ns)) (hn : ns.length ≤ 1000) (h : ∀ t k, Q (.int ((ns.length : Nat) : Int) t) { s with toks := k }) : wpAny (model prog w) A (call (.builtin "len") [.ref l]) Q E s := by
  have e : vs.toArray.size = ns.length := by rw [List.size_toArray, hi.length, List.length_map]
  refine Calls.call_len_list hl ?_ ?_
  · first | (rw [e]; exact fitsSsize_of (N := 9223372036854775808) (by omega) (by omega) (Int.le_refl _)) | (rw [e]; omega)
  · rw [e]; exact h _ _
theorem nI_get {vs : List Value} {ns : List Nat} (hi : IntsAre vs (nI ns)) {i : Nat} (h : i < ns.length) : ∃ t, vs[i]? = some (Value.int ((ns.getD i 0 : Nat) : Int) t) := by
  induction ns generalizing vs i with
  | nil => cases h
  | cons a r ih =>
    cases hi with
    | cons n t hi =>
      cases i with
      | zero => exact ⟨t, rfl⟩
      | succ i => exact ih hi (by simpa using h)
theorem r_item2 {l : Addr} {vs : List Value} {t : List Nat} {u : Tok} {value slice : PySem.Expr} (hl : s.heap.IsList l vs.toArray) (hi : IntsAre vs (nI (lapsL t))) (h2 : 1 < (lapsL t).length) (h : ∀ t', Q (.int ((bord t : Nat) : Int) t') s)
    (hs : subscripted slice false (.ref l) (.int (-2) u) = operate [.ref l, .int (-2) u] (getItem (.ref l) (.int (-2) u)) := by with_unfolding_all rfl) :
    wpAny (model prog w) A (subscriptTail value slice (.ref l) (.int (-2) u)) Q E s := by
  have e : vs.length = (lapsL t).length := by rw [hi.length, List.length_map]
  obtain ⟨tv, hv⟩ := nI_get hi (i := (lapsL t).length - 2) (by omega)
  refine tail_any hl.typeIs slot_list_getitem.lookup (wpAny_getItem_list_neg hl (by decide) (by rw [List.size_toArray]; omega) (by decide) (x := .int ((bord t : Nat) : Int) tv) ?_ (h tv)) hs
  have ei : ((-2 : Int) + (vs.toArray.size : Nat)).toNat = (lapsL t).length - 2 := by rw [List.size_toArray]; omega
  rw [ei]
  simpa [bord] using hv
end
theorem laps_le (t : List Nat) : (lapsL t).length ≤ t.length := by
  have := List.length_filter_le (lapB t) ((List.range t.length).map (· + 1))
  rw [List.length_map, List.length_range] at this
  exact this
theorem chain_stop {t : List Nat} (h : ¬ 1 < (lapsL t).length) (n : Nat) (ch : List (Nat × Nat)) : chainL n t ch = (ch, t) := by
  cases n with
  | zero => rfl
  | succ n => show (if 1 < (lapsL t).length then _ else _) = _; rw [if_neg h]
theorem chain_go {t : List Nat} (h : 1 < (lapsL t).length) (n : Nat) (ch : List (Nat × Nat)) : chainL (n + 1) t ch = chainL n (nxt t) (ch ++ [(t.length, stp t)]) := by
  show (if 1 < (lapsL t).length then _ else _) = _; rw [if_pos h]
theorem tail_ne {tl : List (Addr × Obj)} {D c : Addr} (h : ∀ p ∈ tl, @LT.lt Nat _ D p.1) (hc : @LE.le Nat _ c D) : ∀ p ∈ tl, p.1 ≠ c := fun p hp e => by
  have h1 := h p hp
  have h2 : @LT.lt Nat _ D c := e ▸ h1
  exact absurd h2 (Nat.not_lt.mpr hc)
theorem step_int {t : List Nat} (h : bord t < t.length) : ((t.length : Nat) : Int) - ((bord t : Nat) : Int) = ((stp t : Nat) : Int) := by unfold stp; omega
theorem nxt_a {t : List Nat} (h : 2 * ((stp t : Nat) : Int) ≤ ((t.length : Nat) : Int)) : t.take (((stp t : Nat) : Int) + ((t.length : Nat) : Int) % ((stp t : Nat) : Int)).toNat = nxt t := by
  unfold nxt
  rw [if_pos (by omega)]
  congr 1
theorem nxt_b {t : List Nat} (h : ¬ 2 * ((stp t : Nat) : Int) ≤ ((t.length : Nat) : Int)) : t.drop (((stp t : Nat) : Int)).toNat = nxt t := by
  unfold nxt
  rw [if_neg (by omega)]
  rfl
theorem nxt_free {t : List Nat} (h : 46 ∉ t) : 46 ∉ nxt t := by
  unfold nxt
  split
  · exact fun q => h (List.mem_of_mem_take q)
  · exact fun q => h (List.mem_of_mem_drop q)
theorem news_ins {h₀ h : Heap} {L T : Addr} {o : Obj} {A tl : List (Addr × Obj)} (N : News h₀ L h (A ++ tl)) (N1 : News h₀ L h [(T, o)]) : News h₀ L h (A ++ (T, o) :: tl) := by
  intro q hq
  rcases List.mem_append.mp hq with hq | hq
  · exact N q (List.mem_append_left _ hq)
  · rcases List.mem_cons.mp hq with rfl | hq
    · exact N1 _ (.head _)
    · exact N q (List.mem_append_right _ hq)
theorem con_own3 {h₀ h h' : Heap} {L : Addr} {A B pre post : List (Addr × Obj)} (N : News h₀ L h (A ++ (pre ++ B))) (K : KeptBut (pre.map (·.1)) h h') (N' : News h₀ L h' post) (hA : ∀ p ∈ A, p.1 ∉ pre.map (·.1)) (hB : ∀ p ∈ B, p.1 ∉ pre.map (·.1)) : News h₀ L h' (A ++ (post ++ B)) := by
  intro q hq
  rcases List.mem_append.mp hq with hq | hq
  · have := N q (List.mem_append_left _ hq)
    exact ⟨K _ _ this.1 (hA q hq), this.2⟩
  · rcases List.mem_append.mp hq with hq | hq
    · exact N' q hq
    · have := N q (List.mem_append_right _ (List.mem_append_right _ hq))
      exact ⟨K _ _ this.1 (hB q hq), this.2⟩
theorem name_obj {o : Obj} {x : Data} (_d : o.data = x) : ∃ o' : Obj, o' = o := ⟨o, rfl⟩
theorem allNe_off {D : Addr} : ∀ {l : List (Addr × Obj)}, AllNe D l → Off1 D l
  | [], _ => trivial
  | _ :: _, h => ⟨h.1, allNe_off h.2⟩
theorem made0 (a b : Nat) {t : List Nat} (h : t ≠ []) : [a] ++ rpt [b] (((t.length : Nat) : Int) - 1) = a :: List.replicate (t.length - 1) b := by
  have e : (((t.length : Nat) : Int) - 1).toNat = t.length - 1 := by omega
  unfold rpt
  rw [e]
  simp [List.flatten_replicate_singleton]
theorem r_rev {prog : Program} {w : World} {A : Around} {E : Value → Shared → Prop} {s : Shared} {h₀ : Heap} {L l : Addr} {m : PySem.Str → Option Value} {news : List (Addr × Obj)} {value slice : PySem.Expr} {vs : List Value} {k : Nat} {uk : Tok} {ops : List Value} {Q : Value → Shared → Prop}
    (F : Fr h₀ L s.heap m) (N : News h₀ L s.heap news) (hm : (l, listOf vs.toArray k) ∈ news) (hz : vs.length ≤ 9)
    (h : ∀ D h', Fr h₀ L h' m → News h₀ L h' ((D, listOf vs.reverse.toArray 0) :: news) → (∀ p ∈ news, p.1 < D) → Q (.ref D) { s with heap := h' })
    (hs : subscripted slice false (.ref l) (.ref s.heap.objs.size) = operate ops (getItem (.ref l) (.ref s.heap.objs.size)) := by with_unfolding_all rfl)
    (ht : ∀ r, letTemporaryGo value (.ref l) r = pure () := by intro _; with_unfolding_all rfl) :
    wpAny (model prog w) A (subscriptTail value slice (.ref l) (.ref s.heap.objs.size)) Q E { s with heap := s.heap.push { cls := .type "slice", data := .fields #[.none, .none, .int (-1) uk] } } :=
  krv_lit F N ⟨_, N.get hm, rfl, _, rfl⟩ (IsPart.int _ _) (by simp) h hs ht (by rw [List.size_toArray, sizeLine_eq]; omega)
end
section
open PySem PySem.W PyProof.Rows PySem.Calls
section
variable {prog : Program} {w : World} {A : Around} {E : Value → Shared → Prop} {s : Shared} {h₀ : Heap} {L : Addr} {m : PySem.Str → Option Value} {env : Env}
/-- a comprehension over a tuple of the ledger -/
noncomputable def CompSrcV (prog : Program) (w : World) (A : Around) (h₀ : Heap) (L : Addr) (m : PySem.Str → Option Value) (env : Env) (elt : PySem.Expr) (x : PySem.Str) (scope : Scope) (cl : List (PySem.Str × Addr)) (Fin : Shared → List Value → List (Addr × Obj) → Prop) (xv : Value) (s₁ : Shared) : Prop :=
  ∃ (ax : Addr) (its : List Value) (news : List (Addr × Obj)), xv = .ref ax ∧ A.handled = none ∧ Fr h₀ L s₁.heap m ∧ News h₀ L s₁.heap news ∧ (ax, tupObj its) ∈ news ∧ its.length ≤ 1000000 ∧
    ∀ s₂ : Shared, (∃ h, s₂ = { s₁ with heap := h }) → LCg.CompRest prog w A h₀ L m env elt x scope cl s₂ (fun nw => (ax, tupObj its) ∈ nw) (fun i v => its[i]? = some v) (Fin s₂) its.length 0 [] news
theorem Assign_ListComp_V {elt iter : PySem.Expr} {x y : PySem.Str} {px py : Pos} {scope : Scope} {cl : List (PySem.Str × Addr)} {pos spos : Pos} {Q : Flow → Shared → Prop} (_F₀ : Fr h₀ L s.heap m) (hLe : env.locals = L)
    (hsw : swapsWith (.ListComp elt [⟨.Name x px, iter, [], 0⟩] scope pos) (some (.Name y py)) spos.line env = pure true)
    (hclos : closureFor scope env = pure cl) (hcell : ∀ z ∈ scope.names, z.2 ≠ .cell) (hkind : scope.kind = .function)
    (hnames : ∀ z ∈ scope.names, z.2 = .local → scope.names.lookup z.1 = some .local) (hx : scope.names.lookup x = some .local)
    (hy : env.kindOf y = some .local) (hp : (env.scope.kind == .class || (env.scope.kind == .module && env.locals != env.globals)) = false)
    (h : wpAny (model prog w) A (eval iter env) (CompSrcV prog w A h₀ L m env elt x scope cl (fun s₂ => LCg.FinA h₀ L m s₂ y Q)) E s)
    (hs : ∀ x, foldedSetIterable iter env x = pure x := by intro _; rfl) :
    wpAny (model prog w) A (exec (.Assign [.Name y py] (.ListComp elt [⟨.Name x px, iter, [], 0⟩] scope pos) spos) env) Q E s := by
  subst hLe
  rw [exec_Assign_Name_used _ _ _ _ hsw]
  refine wpAny_bind (wpAny_standAt (wpAny_bind ?_))
  show wpAny _ A (do let _ ← comprehension (.ListComp elt [⟨.Name x px, iter, [], 0⟩] scope pos) scope env _ (newList []) false (eval iter env) (some (assign (.Name y py) env))) _ _ s
  refine wpAny_bind (wpAny_mono (wpAny_comprehension_free (use := some (assign (.Name y py) env)) (Q := fun _ s' => Q .next s') rfl hs hclos hkind hnames
    (wpAny_mono h (fun xv s₁ h₁ => ?_) fun _ _ e => e)) (fun _ s' hq => wpAny_pure (wpAny_pure hq)) fun _ _ e => e)
  obtain ⟨ax, its, news, rfl, hh, F, N, hm, hl, R⟩ := h₁
  have hT : s₁.heap.IsTuple ax its.toArray := ⟨_, (N _ hm).1, rfl, _, rfl⟩
  have hlt : ax < s₁.heap.objs.size := Heap.lt_size (N _ hm).1
  refine wpAny_pyIter_tuple hT ?_
  have up : ∀ b o', s₁.heap.get? b = some o' → (s₁.heap.push { cls := .type "tuple_iterator", data := .fields #[.ref ax, .int 0 0] }).get? b = some o' := fun b o' e => Heap.get?_push_of_some _ e
  have W : Walks prog w A s₁.heap.objs.size [s₁.heap.objs.size, ax] [s₁.heap.objs.size] its.length (fun i v => its[i]? = some v) (fun i h => h.IsTupleIter s₁.heap.objs.size ax i ∧ h.IsTuple ax its.toArray) := by
    have W' := Walks.tuple (prog := prog) (w := w) (A := A) hh s₁.heap.objs.size ax (Nat.ne_of_lt hlt) its.toArray
    simp only [List.size_toArray, List.getElem?_toArray] at W'
    exact W'
  refine LCg.block_U (S := fun nw => (ax, tupObj its) ∈ nw) W (by rw [sizeLine_eq]; omega) (fun i h st => by obtain ⟨o, e, _⟩ := st.1; exact ⟨o, e⟩)
    (fun i h h' o nw st e e' _ N' hS => ⟨by obtain ⟨o', q, r⟩ := st.1; rw [e] at q; cases q; exact ⟨o, e', r⟩, ⟨_, (N' _ hS).1, rfl, _, rfl⟩⟩) hcell hkind hx ⟨⟨_, Heap.get?_push_size _ rfl, rfl, rfl⟩, hT.push _⟩ (fun b hb => ?_)
    (F.keeps up) (N.grown up) (Nat.ne_of_lt F.ns.lt) (next_is_new F) (fun p hp => Nat.ne_of_lt (Heap.lt_size (N p hp).1)) hm (R _ ⟨_, rfl⟩) ?_
  · show b < (s₁.heap.push _).objs.size
    rw [Heap.size_push]
    rcases List.mem_cons.mp hb with rfl | hb
    · exact Nat.lt_succ_self _
    · rw [List.mem_singleton.mp hb]; exact Nat.lt_succ_of_lt hlt
  · intro D C h' tk m' ys news' F' N' o1 hn hC₀ hD₀ hCL hDL hCD offC fin
    show wpAny _ A (assign (.Name y py) env (.ref D)) _ _ _
    refine wpAny_assign_Name (wpAny_storeName_local hy F'.ns (fun h₂ hn₂ hs₂ => ?_) hp)
    have hL₀ : h₀.get? env.locals = none := Heap.get?_none_of_le F'.above
    have F₂ : Fr h₀ env.locals h₂ (fun z => if z = y then some (.ref D) else m z) := ⟨hn₂, fun b o e => hs₂.extBut b o (fun q => by rw [q, hL₀] at e; cases e) (F'.keep b o e), F'.above⟩
    refine ⟨m', hn.sameBut hs₂ hCL, fun h'' hs'' => fin D h'' _ (F₂.change hs'' hCL hC₀) (fun p hp => ?_) o1⟩
    have z : h₂.get? p.1 = some p.2 := hs₂.extBut _ _ (N' p hp).2.1 (N' p hp).1
    refine ⟨hs''.extBut _ _ ?_ z, (N' p hp).2⟩
    rcases List.mem_cons.mp hp with rfl | hp
    · exact Ne.symm hCD
    · exact offC p hp
end
/-- the last but one of the laps, as a list -/
noncomputable def lapM (t : List Nat) : List Int := if 2 ≤ (lapsL t).length then [((bord t : Nat) : Int)] else []
theorem pick_m21 (ns : List Int) : pickNums ns (some (-2)) (some (-1)) none = if 2 ≤ ns.length then [ns.getD (ns.length - 2) 0] else [] := by
  rcases ns with _ | ⟨a, _ | ⟨b, r⟩⟩
  · rfl
  · rfl
  · rw [if_pos (by simp)]
    generalize hn : (a :: b :: r) = l
    have h2 : 2 ≤ l.length := by rw [← hn]; simp
    have e : sliceBounds (some (-2)) (some (-1)) none l.length = (((l.length - 2 : Nat) : Int), ((l.length - 1 : Nat) : Int), 1) := by
      simp only [sliceBounds, Option.getD_none]
      refine Prod.ext ?_ (Prod.ext ?_ rfl) <;> (simp; omega)
    unfold pickNums
    rw [e]
    have e2 : sliceRange (((l.length - 2 : Nat) : Int)) (((l.length - 1 : Nat) : Int)) 1 = [l.length - 2] := by
      unfold sliceRange
      have c : ((if (1 : Int) > 0 then (if ((l.length - 2 : Nat) : Int) < ((l.length - 1 : Nat) : Int) then (((l.length - 1 : Nat) : Int) - ((l.length - 2 : Nat) : Int) + 1 - 1) / 1 else 0) else (if ((l.length - 2 : Nat) : Int) > ((l.length - 1 : Nat) : Int) then (((l.length - 2 : Nat) : Int) - ((l.length - 1 : Nat) : Int) - 1 - 1) / (-1) else 0)) : Int) = 1 := by
        rw [if_pos (by decide), if_pos (by omega), Int.ediv_one]; omega
      dsimp only
      rw [c]
      simp
    rw [e2]
    have h3 : l.length - 2 < l.length := by omega
    simp [List.getD_eq_getElem?_getD, List.getElem?_eq_getElem h3]
theorem pick_laps (t : List Nat) : pickNums (nI (lapsL t)) (some (-2)) (some (-1)) none = lapM t := by
  rw [pick_m21]
  unfold lapM bord nI
  rw [List.length_map]
  split
  · rename_i h
    have h3 : (lapsL t).length - 2 < (lapsL t).length := by omega
    simp [List.getD_eq_getElem?_getD, List.getElem?_eq_getElem h3]
  · rfl
theorem lapM_eq (core row : List Nat) : decide (lapM row = [((core.length : Nat) : Int)]) = fitB core row := by
  unfold lapM fitB
  by_cases h : 2 ≤ (lapsL row).length
  · rw [if_pos h, decide_eq_true h, Bool.true_and, Bool.eq_iff_iff, decide_eq_true_eq, beq_iff_eq]
    simp
    omega
  · rw [if_neg h, decide_eq_false h, Bool.false_and, decide_eq_false_iff_not]
    simp
theorem row_eq (b x : Nat) (core : List Nat) {n p : Nat} (h : n < 2 * p) : core ++ rpt [b] (2 * ((p : Nat) : Int) - ((n : Nat) : Int) - 1) ++ [x] ++ core = rowL b core n p x := by
  have e : (2 * ((p : Nat) : Int) - ((n : Nat) : Int) - 1).toNat = 2 * p - n - 1 := by omega
  unfold rpt rowL
  rw [e]
  simp [List.flatten_replicate_singleton]
theorem back_a (a b : Nat) (M : List Nat) {n p : Nat} (h : 2 * ((p : Nat) : Int) ≤ ((n : Nat) : Int)) : rpt (M.take ((p : Nat) : Int).toNat) (((n : Nat) : Int) / ((p : Nat) : Int)) ++ M.take (((n : Nat) : Int) % ((p : Nat) : Int)).toNat = back1 a b M (n, p) := by
  unfold back1 rpt
  rw [if_pos (by dsimp only; omega)]
  congr 1
theorem back_b (a b : Nat) (M : List Nat) {n p : Nat} (h : ¬ 2 * ((p : Nat) : Int) ≤ ((n : Nat) : Int)) : back1 a b M (n, p) = mkRow a b M n p := by
  unfold back1
  rw [if_neg (by dsimp only; omega)]
theorem row_len (b x : Nat) {core : List Nat} {n p : Nat} (h : n < 2 * p) (hp : p < n) (hc : core.length = n - p) : (rowL b core n p x).length = n := by
  simp [rowL]; omega
theorem row_free {b x : Nat} {core : List Nat} {n p : Nat} (hb : b ≠ 46) (hx : x ≠ 46) (hc : 46 ∉ core) : 46 ∉ rowL b core n p x := by
  unfold rowL
  simp only [List.mem_append, List.mem_replicate, List.mem_singleton]
  rintro (((q | ⟨_, q⟩) | q) | q)
  · exact hc q
  · exact hb q.symm
  · exact hx q.symm
  · exact hc q
/-- the rows that fit -/
noncomputable def fits (a b : Nat) (core : List Nat) (n p : Nat) (i : Nat) : List (List Nat) := ([rowL b core n p b, rowL b core n p a].take i).filter (fitB core)
theorem fits_mk (a b : Nat) (core : List Nat) (n p : Nat) : (fits a b core n p 2 = [] ∧ mkRow a b core n p = []) ∨ ∃ r, fits a b core n p 2 = mkRow a b core n p :: r := by
  unfold fits mkRow
  by_cases h1 : fitB core (rowL b core n p b) = true
  · right; exact ⟨_, by rw [if_pos h1, List.take_of_length_le (by simp), List.filter_cons_of_pos h1]⟩
  · by_cases h2 : fitB core (rowL b core n p a) = true
    · right; exact ⟨[], by rw [if_neg h1, if_pos h2, List.take_of_length_le (by simp), List.filter_cons_of_neg h1, List.filter_cons_of_pos h2]; rfl⟩
    · left; exact ⟨by rw [List.take_of_length_le (by simp), List.filter_cons_of_neg h1, List.filter_cons_of_neg h2]; rfl, by rw [if_neg h1, if_neg h2]⟩
theorem tail_ne2 {tl : List (Addr × Obj)} {D c : Addr} (h : ∀ p ∈ tl, @LT.lt Nat _ p.1 D) (hc : @LE.le Nat _ D c) : ∀ p ∈ tl, p.1 ≠ c := fun p hp e => by
  have h1 := h p hp
  have h2 : @LT.lt Nat _ c D := e ▸ h1
  exact absurd h2 (Nat.not_lt.mpr hc)
end
section
noncomputable def Per (t : List Nat) (p : Nat) : Prop := ∀ i, i + p < t.length → t[i]? = t[i + p]?
theorem lap_per {t : List Nat} {s : Nat} (hs : s ≤ t.length) : lapB t s = true ↔ Per t (t.length - s) := by
  unfold lapB Per
  rw [beq_iff_eq]
  constructor
  · intro h i hi
    have h1 : (t.drop (t.length - s))[i]? = (t.take s)[i]? := by rw [h]
    rw [List.getElem?_drop, List.getElem?_take_of_lt (by omega)] at h1
    rw [Nat.add_comm i]; exact h1.symm
  · intro h
    apply List.ext_getElem?
    intro i
    by_cases hi : i < s
    · rw [List.getElem?_drop, List.getElem?_take_of_lt hi, h i (by omega), Nat.add_comm]
    · rw [List.getElem?_eq_none (by rw [List.length_drop]; omega), List.getElem?_eq_none (by rw [List.length_take]; omega)]
theorem per_zero (t : List Nat) : Per t 0 := fun _ _ => rfl
theorem per_sub {t : List Nat} {p q : Nat} (hp : Per t p) (hq : Per t q) (hl : p + q ≤ t.length) (h : q ≤ p) : Per t (p - q) := by
  intro i hi
  by_cases hiq : q ≤ i
  · have h1 := hq (i - q) (by omega)
    have h2 := hp (i - q) (by omega)
    rw [show i - q + q = i by omega] at h1
    rw [show i - q + p = i + (p - q) by omega] at h2
    rw [← h1, h2]
  · have h1 := hp i (by omega)
    have h2 := hq (i + (p - q)) (by omega)
    rw [show i + (p - q) + q = i + p by omega] at h2
    rw [h1, h2]
theorem per_gcd {t : List Nat} : ∀ (k p q : Nat), p + q ≤ k → Per t p → Per t q → p + q ≤ t.length → Per t (Nat.gcd p q)
  | 0, p, q, hk, hp, hq, _ => by
    have h1 : p = 0 := by omega
    have h2 : q = 0 := by omega
    subst h1 h2; exact per_zero t
  | k + 1, p, q, hk, hp, hq, hl => by
    by_cases h0 : p = 0
    · subst h0; rw [Nat.gcd_zero_left]; exact hq
    by_cases h1 : q = 0
    · subst h1; rw [Nat.gcd_zero_right]; exact hp
    by_cases h : q ≤ p
    · have := per_gcd k (p - q) q (by omega) (per_sub hp hq hl h) hq (by omega)
      rw [Nat.gcd_sub_self_left h] at this
      exact this
    · have := per_gcd k p (q - p) (by omega) hp (per_sub hq hp (by omega) (by omega)) (by omega)
      rw [Nat.gcd_sub_self_right (by omega)] at this
      exact this
theorem per_mod {t : List Nat} {p : Nat} (hp : Per t p) (h1 : 1 ≤ p) : ∀ (k i : Nat), i ≤ k → i < t.length → t[i]? = t[i % p]?
  | 0, i, hk, hi => by
    have : i = 0 := by omega
    subst this; rw [Nat.zero_mod]
  | k + 1, i, hk, hi => by
    by_cases h : i < p
    · rw [Nat.mod_eq_of_lt h]
    · have e1 := hp (i - p) (by omega)
      rw [show i - p + p = i by omega] at e1
      rw [← e1, per_mod hp h1 k (i - p) (by omega) (by omega)]
      congr 1
      rw [← Nat.mod_eq_sub_mod (by omega)]
theorem per_get {t : List Nat} {p : Nat} (hp : Per t p) (h1 : 1 ≤ p) {i j : Nat} (hi : i < t.length) (hj : j < t.length) (h : i % p = j % p) : t[i]? = t[j]? := by
  rw [per_mod hp h1 i i (Nat.le_refl _) hi, per_mod hp h1 j j (Nat.le_refl _) hj, h]
theorem per_mul {t : List Nat} {p q : Nat} (hp : Per t p) (h1 : 1 ≤ p) (h : p ∣ q) : Per t q := by
  intro i hi
  obtain ⟨k, rfl⟩ := h
  exact per_get hp h1 (by omega) hi (by rw [Nat.add_mul_mod_self_left])
theorem per_take {t : List Nat} {p m : Nat} (hp : Per t p) : Per (t.take m) p := by
  intro i hi
  rw [List.length_take] at hi
  rw [List.getElem?_take_of_lt (by omega), List.getElem?_take_of_lt (by omega)]
  exact hp i (by omega)
/-- a shorter period of the beginning is one of the whole -/
theorem per_ext {t : List Nat} {p d m : Nat} (hp : Per t p) (h1 : 1 ≤ p) (hd : Per (t.take m) d) (hd1 : 1 ≤ d) (hdp : d ∣ p) (hm : p ≤ m) (hmt : m ≤ t.length) : Per t d := by
  have key : ∀ i, i < t.length → t[i]? = t[i % d]? := by
    intro i hi
    have hlt : i % p < p := Nat.mod_lt _ h1
    have e1 := per_mod hp h1 i i (Nat.le_refl _) hi
    have hl : i % p < (t.take m).length := by rw [List.length_take]; omega
    have e2 := per_mod hd hd1 (i % p) (i % p) (Nat.le_refl _) hl
    have hlt2 : i % p % d ≤ i % p := Nat.mod_le _ _
    rw [List.getElem?_take_of_lt (by omega), List.getElem?_take_of_lt (by omega)] at e2
    rw [e1, e2, Nat.mod_mod_of_dvd _ hdp]
  intro i hi
  rw [key i (by omega), key (i + d) hi, Nat.add_mod_right]
/-- laps by periods: t has the period p, and no shorter one that divides p -/
theorem laps_char {t : List Nat} {p : Nat} (hp : Per t p) (h1 : 1 ≤ p) (hmin : ∀ d, 1 ≤ d → d < p → d ∣ p → ¬ Per t d) (hl : 2 * p ≤ t.length) {s : Nat} (hs : s ≤ t.length) :
    lapB t s = true ↔ (s ≤ p + t.length % p ∧ lapB (t.take (p + t.length % p)) s = true) ∨ (p + t.length % p < s ∧ p ∣ (t.length - s)) := by
  have hr : t.length % p < p := Nat.mod_lt _ h1
  have hdm := Nat.div_add_mod t.length p
  have hq2 : 2 ≤ t.length / p := (Nat.le_div_iff_mul_le (by omega)).mpr (by omega)
  have hpq : p * 2 ≤ p * (t.length / p) := Nat.mul_le_mul_left _ hq2
  by_cases hsp : s ≤ p + t.length % p
  · have hlen : (t.take (p + t.length % p)).length = p + t.length % p := by rw [List.length_take]; omega
    constructor
    · intro h
      refine Or.inl ⟨hsp, ?_⟩
      rw [lap_per hs] at h
      rw [lap_per (by omega), hlen]
      intro i hi
      rw [hlen] at hi
      rw [List.getElem?_take_of_lt (by omega), List.getElem?_take_of_lt (by omega), h i (by omega)]
      refine per_get hp h1 (by omega) (by omega) ?_
      have e : i + (t.length - s) = (i + (p + t.length % p - s)) + p * (t.length / p - 1) := by
        rw [Nat.mul_sub, Nat.mul_one]; omega
      rw [e, Nat.add_mul_mod_self_left]
    · rintro (⟨_, h⟩ | ⟨h, _⟩)
      · rw [lap_per (by omega), hlen] at h
        rw [lap_per hs]
        intro i hi
        have h2 := h i (by rw [hlen]; omega)
        rw [List.getElem?_take_of_lt (by omega), List.getElem?_take_of_lt (by omega)] at h2
        rw [h2]
        refine per_get hp h1 (by omega) hi ?_
        have e : i + (t.length - s) = (i + (p + t.length % p - s)) + p * (t.length / p - 1) := by
          rw [Nat.mul_sub, Nat.mul_one]; omega
        rw [e, Nat.add_mul_mod_self_left]
      · omega
  · constructor
    · intro h
      refine Or.inr ⟨by omega, ?_⟩
      rw [lap_per hs] at h
      have hg := per_gcd _ _ _ (Nat.le_refl _) hp h (by omega)
      have hdv : Nat.gcd p (t.length - s) ∣ p := Nat.gcd_dvd_left _ _
      have hpos : 1 ≤ Nat.gcd p (t.length - s) := Nat.gcd_pos_of_pos_left _ h1
      have hle : Nat.gcd p (t.length - s) ≤ p := Nat.le_of_dvd h1 hdv
      by_cases he : Nat.gcd p (t.length - s) < p
      · exact absurd hg (hmin _ hpos he hdv)
      · have : Nat.gcd p (t.length - s) = p := by omega
        have h2 := Nat.gcd_dvd_right p (t.length - s)
        rw [this] at h2
        exact h2
    · rintro (⟨h, _⟩ | ⟨_, h⟩)
      · omega
      · rw [lap_per hs]; exact per_mul hp h1 h
theorem laps_ext {t m : List Nat} (hl : m.length = t.length) (h : ∀ s, 1 ≤ s → s ≤ t.length → (lapB m s = true ↔ lapB t s = true)) : lapsL m = lapsL t := by
  unfold lapsL lapsTo
  rw [hl]
  refine List.filter_congr fun s hs => ?_
  obtain ⟨j, hj, rfl⟩ := List.mem_map.mp hs
  have := List.mem_range.mp hj
  rw [Bool.eq_iff_iff]
  exact h _ (by omega) (by omega)
theorem laps_of {t m : List Nat} (h : lapsL m = lapsL t) (hl : m.length = t.length) {s : Nat} (h1 : 1 ≤ s) (hs : s ≤ t.length) : lapB m s = true ↔ lapB t s = true := by
  rw [← mem_laps h1 (by omega), ← mem_laps h1 hs, h]
end
section
theorem chain_app : ∀ (f : Nat) (t : List Nat) (ch : List (Nat × Nat)), chainL f t ch = (ch ++ (chainL f t []).1, (chainL f t []).2)
  | 0, t, ch => by simp [chainL]
  | f + 1, t, ch => by
    by_cases h : 1 < (lapsL t).length
    · rw [chain_go h, chain_go h, chain_app f _ (ch ++ _), chain_app f _ ([] ++ _)]
      simp
    · rw [chain_stop h, chain_stop h]; simp
theorem chain_fuel : ∀ (f g : Nat) (t : List Nat), t.length ≤ f → t.length ≤ g → chainL f t [] = chainL g t []
  | 0, g, t, hf, _ => by
    have : t = [] := List.length_eq_zero_iff.mp (by omega)
    subst this
    have h : ¬ 1 < (lapsL []).length := by decide
    rw [chain_stop h, chain_stop h]
  | f + 1, g, t, hf, hg => by
    by_cases h : 1 < (lapsL t).length
    · have hn := nxt_lt h
      obtain ⟨k, rfl⟩ : ∃ k, g = k + 1 := ⟨g - 1, by omega⟩
      rw [chain_go h, chain_go h, chain_app f, chain_app k, chain_fuel f k (nxt t) (by omega) (by omega)]
    · rw [chain_stop h, chain_stop h]
theorem two_base {t : List Nat} (a b : Nat) (h : ¬ 1 < (lapsL t).length) : twoL t a b = a :: List.replicate (t.length - 1) b := by
  unfold twoL
  rw [chain_stop h]; rfl
theorem two_rec {t : List Nat} (a b : Nat) (h : 1 < (lapsL t).length) : twoL t a b = back1 a b (twoL (nxt t) a b) (t.length, stp t) := by
  have hn := nxt_lt h
  unfold twoL
  obtain ⟨k, hk⟩ : ∃ k, t.length = k + 1 := ⟨t.length - 1, by omega⟩
  have e : chainL t.length t [] = ([(t.length, stp t)] ++ (chainL (nxt t).length (nxt t) []).1, (chainL (nxt t).length (nxt t) []).2) := by
    rw [show chainL t.length t [] = chainL (k + 1) t [] by rw [hk], chain_go h, chain_app, chain_fuel k (nxt t).length (nxt t) (by omega) (Nat.le_refl _)]
    simp
  rw [e]
  simp
theorem len_lap {t : List Nat} : lapB t t.length = true := by simp [lapB]
theorem len_mem {t : List Nat} (h : t ≠ []) : t.length ∈ lapsL t := (mem_laps (List.length_pos_iff.mpr h) (Nat.le_refl _)).mpr len_lap
/-- the laps: all shorter ones, and the whole -/
theorem laps_last {t : List Nat} (h : t ≠ []) : ∃ l, lapsL t = l ++ [t.length] ∧ ∀ s ∈ l, s < t.length := by
  have hp := List.length_pos_iff.mpr h
  obtain ⟨k, hk⟩ : ∃ k, t.length = k + 1 := ⟨t.length - 1, by omega⟩
  refine ⟨lapsTo t k, ?_, fun s hs => ?_⟩
  · unfold lapsL
    have hb : lapB t (k + 1) = true := by rw [← hk]; exact len_lap
    rw [show lapsTo t t.length = lapsTo t (k + 1) by rw [hk], lapsTo_succ, hb, hk]
    rfl
  · unfold lapsTo at hs
    obtain ⟨j, hj, rfl⟩ := List.mem_map.mp (List.mem_filter.mp hs).1
    have := List.mem_range.mp hj
    omega
theorem bord_max {t : List Nat} (h : 1 < (lapsL t).length) {s : Nat} (h1 : 1 ≤ s) (hs : s < t.length) (hb : lapB t s = true) : s ≤ bord t := by
  have hne : t ≠ [] := fun q => by subst q; simp at hs
  obtain ⟨l, e, hl⟩ := laps_last hne
  have hm := (mem_laps h1 (by omega)).mpr hb
  rw [e] at hm
  have hm' : s ∈ l := by
    rcases List.mem_append.mp hm with q | q
    · exact q
    · have := List.mem_singleton.mp q; omega
  have hlen : (lapsL t).length = l.length + 1 := by rw [e]; simp
  have hb2 : bord t = l.getD (l.length - 1) 0 := by
    unfold bord
    rw [hlen, e, show l.length + 1 - 2 = l.length - 1 by omega, List.getD_eq_getElem?_getD, List.getD_eq_getElem?_getD, List.getElem?_append_left (by omega)]
  have hso : l.Pairwise (· < ·) := by
    have := lapsTo_sorted t t.length
    rw [show lapsTo t t.length = l ++ [t.length] from e] at this
    exact (List.pairwise_append.mp this).1
  obtain ⟨i, hi, rfl⟩ := List.getElem_of_mem hm'
  rw [hb2, List.getD_eq_getElem?_getD, List.getElem?_eq_getElem (show l.length - 1 < l.length by omega)]
  by_cases hil : i = l.length - 1
  · subst hil; exact Nat.le_refl _
  · exact Nat.le_of_lt (List.pairwise_iff_getElem.mp hso i (l.length - 1) hi (by omega) (by omega))
theorem stp_min {t : List Nat} (h : 1 < (lapsL t).length) {d : Nat} (h1 : 1 ≤ d) (hd : d < stp t) : ¬ Per t d := by
  intro hp
  have hs := stp_pos h
  have hb := bord_lt h
  have := bord_max h (s := t.length - d) (by omega) (by omega) (by
    rw [lap_per (by omega), show t.length - (t.length - d) = d by omega]; exact hp)
  unfold stp at hd
  omega
theorem stp_per {t : List Nat} (h : 1 < (lapsL t).length) : Per t (stp t) := by
  have hb := bord_lt h
  have := (lap_per (t := t) (s := bord t) (by omega)).mp hb.2.2
  exact this
theorem two_laps {t : List Nat} {s : Nat} (h1 : 1 ≤ s) (hs : s < t.length) (hb : lapB t s = true) : 1 < (lapsL t).length := by
  have hne : t ≠ [] := fun q => by subst q; simp at hs
  obtain ⟨l, e, hl⟩ := laps_last hne
  have hm := (mem_laps h1 (by omega)).mpr hb
  rw [e] at hm ⊢
  rcases List.mem_append.mp hm with q | q
  · have := List.length_pos_of_mem q
    simp; omega
  · have := List.mem_singleton.mp q; omega
/-- laps are those of the border, and the whole -/
theorem laps_bord {t : List Nat} (h : 1 < (lapsL t).length) {s : Nat} (h1 : 1 ≤ s) (hs : s ≤ t.length) : lapB t s = true ↔ (s ≤ bord t ∧ lapB (t.drop (stp t)) s = true) ∨ s = t.length := by
  have hb := bord_lt h
  have hlen : (t.drop (stp t)).length = bord t := by rw [List.length_drop]; unfold stp; omega
  have htk : t.drop (stp t) = t.take (bord t) := by
    have := hb.2.2
    unfold lapB at this
    exact eq_of_beq this
  have key : s ≤ bord t → (lapB t s = true ↔ lapB (t.drop (stp t)) s = true) := by
    intro hsb
    unfold lapB
    rw [beq_iff_eq, beq_iff_eq, hlen, List.drop_drop]
    have e1 : stp t + (bord t - s) = t.length - s := by unfold stp; omega
    have e2 : (t.drop (stp t)).take s = t.take s := by rw [htk, List.take_take, Nat.min_eq_left hsb]
    rw [e1, e2]
  constructor
  · intro hl
    by_cases hn : s = t.length
    · exact Or.inr hn
    · have := bord_max h h1 (by omega) hl
      exact Or.inl ⟨this, (key this).mp hl⟩
  · rintro (⟨h2, h3⟩ | rfl)
    · exact (key h2).mpr h3
    · exact len_lap
theorem base_laps {a b : Nat} (hab : a ≠ b) {n s : Nat} (h1 : 1 ≤ s) (hs : s ≤ n + 1) : lapB (a :: List.replicate n b) s = true ↔ s = n + 1 := by
  have hl : (a :: List.replicate n b).length = n + 1 := by simp
  rw [lap_per (by omega), hl]
  constructor
  · intro h
    by_cases e : s = n + 1
    · exact e
    · have := h 0 (by omega)
      obtain ⟨k, hk⟩ : ∃ k, n + 1 - s = k + 1 := ⟨n - s, by omega⟩
      rw [Nat.zero_add, hk, List.getElem?_cons_zero, List.getElem?_cons_succ, List.getElem?_replicate, if_pos (by omega)] at this
      exact absurd (Option.some.inj this) hab
  · rintro rfl
    rw [Nat.sub_self]; exact per_zero _
end
section
theorem rep_get {u : List Nat} {p r : Nat} (hu : u.length = p) (h1 : 1 ≤ p) (hr : r < p) : ∀ (k i : Nat), i < k * p + r → ((List.replicate k u).flatten ++ u.take r)[i]? = u[i % p]?
  | 0, i, hi => by
    have h : i < r := by omega
    rw [List.replicate_zero, List.flatten_nil, List.nil_append, List.getElem?_take_of_lt h, Nat.mod_eq_of_lt (by omega)]
  | k + 1, i, hi => by
    rw [List.replicate_succ, List.flatten_cons, List.append_assoc]
    by_cases h : i < p
    · rw [List.getElem?_append_left (by omega), Nat.mod_eq_of_lt h]
    · rw [List.getElem?_append_right (by omega), hu, rep_get hu h1 hr k (i - p) (by rw [Nat.succ_mul] at hi; omega), ← Nat.mod_eq_sub_mod (by omega)]
theorem stepB (a b : Nat) {t m' : List Nat} (h : 1 < (lapsL t).length) (h2 : 2 * stp t ≤ t.length) (hm : lapsL m' = lapsL (nxt t)) (hlm : m'.length = (nxt t).length) :
    lapsL (back1 a b m' (t.length, stp t)) = lapsL t ∧ (back1 a b m' (t.length, stp t)).length = t.length := by
  have hs := stp_pos h
  have hper := stp_per h
  generalize hp : stp t = p at *
  have hr : t.length % p < p := Nat.mod_lt _ (by omega)
  have hdm := Nat.div_add_mod t.length p
  have hq2 : 2 ≤ t.length / p := (Nat.le_div_iff_mul_le (by omega)).mpr (by omega)
  have hpq : p * 2 ≤ p * (t.length / p) := Nat.mul_le_mul_left _ hq2
  have hnx : nxt t = t.take (p + t.length % p) := by unfold nxt; rw [hp, if_pos h2]
  have hlt : (t.take (p + t.length % p)).length = p + t.length % p := by rw [List.length_take]; omega
  rw [hnx] at hm hlm
  rw [hlt] at hlm
  have hb : back1 a b m' (t.length, p) = (List.replicate (t.length / p) (m'.take p)).flatten ++ m'.take (t.length % p) := by
    unfold back1; rw [if_pos h2]
  rw [hb]
  have hu : (m'.take p).length = p := by rw [List.length_take]; omega
  have e1 : m'.take (t.length % p) = (m'.take p).take (t.length % p) := by rw [List.take_take, Nat.min_eq_left (by omega)]
  rw [e1]
  have hlen : ((List.replicate (t.length / p) (m'.take p)).flatten ++ (m'.take p).take (t.length % p)).length = t.length := by
    rw [List.length_append, List.length_flatten, List.map_replicate, List.sum_replicate_nat, hu, List.length_take, hu, Nat.min_eq_left (by omega), Nat.mul_comm]; omega
  have hget := fun i => rep_get (u := m'.take p) (p := p) (r := t.length % p) hu (by omega) hr (t.length / p) i
  generalize hM : (List.replicate (t.length / p) (m'.take p)).flatten ++ (m'.take p).take (t.length % p) = M at *
  refine ⟨?_, hlen⟩
  have hget' : ∀ i, i < t.length → M[i]? = (m'.take p)[i % p]? := fun i hi => hget i (by rw [Nat.mul_comm]; omega)
  have hPM : Per M p := by
    intro i hi
    rw [hget' i (by omega), hget' (i + p) (by omega), Nat.add_mod_right]
  have hPm : Per m' p := by
    by_cases h0 : t.length % p = 0
    · intro i hi; omega
    · have q1 : lapB (t.take (p + t.length % p)) (t.length % p) = true := by
        rw [lap_per (by omega), hlt, show p + t.length % p - t.length % p = p by omega]
        exact per_take hper
      have q2 := (laps_of hm (by rw [hlt, hlm]) (s := t.length % p) (by omega) (by omega)).mpr q1
      rw [lap_per (by omega), hlm, show p + t.length % p - t.length % p = p by omega] at q2
      exact q2
  have hMm : M.take (p + t.length % p) = m' := by
    apply List.ext_getElem?
    intro i
    by_cases hi : i < p + t.length % p
    · rw [List.getElem?_take_of_lt hi, hget' i (by omega), List.getElem?_take_of_lt (Nat.mod_lt _ (by omega))]
      exact (per_mod hPm (by omega) i i (Nat.le_refl _) (by omega)).symm
    · rw [List.getElem?_eq_none (by rw [List.length_take]; omega), List.getElem?_eq_none (by omega)]
  have hmt : ∀ d, 1 ≤ d → d < p → d ∣ p → ¬ Per t d := fun d h1 hd _ => stp_min h h1 (by rw [hp]; exact hd)
  have hmM : ∀ d, 1 ≤ d → d < p → d ∣ p → ¬ Per M d := by
    intro d h1 hd hdv hq
    have q1 : Per m' d := by rw [← hMm]; exact per_take hq
    have q2 : lapB m' (p + t.length % p - d) = true := by
      rw [lap_per (by omega), hlm, show p + t.length % p - (p + t.length % p - d) = d by omega]; exact q1
    have q3 := (laps_of hm (by rw [hlt, hlm]) (s := p + t.length % p - d) (by omega) (by omega)).mp q2
    rw [lap_per (by omega), hlt, show p + t.length % p - (p + t.length % p - d) = d by omega] at q3
    exact hmt d h1 hd hdv (per_ext hper (by omega) q3 h1 hdv (by omega) (by omega))
  refine laps_ext hlen fun s h1 hs => ?_
  rw [laps_char hPM (by omega) hmM (by omega) (by omega), laps_char hper (by omega) hmt (by omega) hs, hlen, hMm]
  constructor
  · rintro (⟨q1, q2⟩ | q)
    · exact Or.inl ⟨q1, (laps_of hm (by rw [hlt, hlm]) h1 (by omega)).mp q2⟩
    · exact Or.inr q
  · rintro (⟨q1, q2⟩ | q)
    · exact Or.inl ⟨q1, (laps_of hm (by rw [hlt, hlm]) h1 (by omega)).mpr q2⟩
    · exact Or.inr q
/-- words of two signs -/
noncomputable def cab (a b : Nat) (w : List Bool) : List Nat := w.map fun x => if x then a else b
noncomputable def lapsW (w : List Bool) : List Nat := ((List.range w.length).map (· + 1)).filter fun s => w.drop (w.length - s) == w.take s
theorem cab_inj {a b : Nat} (hab : a ≠ b) {v w : List Bool} (h : cab a b v = cab a b w) : v = w := by
  refine (List.map_inj_right fun x y e => ?_).mp h
  cases x <;> cases y <;> simp_all
theorem laps_cab {a b : Nat} (hab : a ≠ b) (w : List Bool) : lapsL (cab a b w) = lapsW w := by
  unfold lapsL lapsTo lapsW
  have hl : (cab a b w).length = w.length := by simp [cab]
  rw [hl]
  refine List.filter_congr fun s _ => ?_
  unfold lapB
  rw [hl, Bool.eq_iff_iff, beq_iff_eq, beq_iff_eq]
  have e1 : (cab a b w).drop (w.length - s) = cab a b (w.drop (w.length - s)) := by simp [cab]
  have e2 : (cab a b w).take s = cab a b (w.take s) := by simp [cab]
  rw [e1, e2]
  exact ⟨cab_inj hab, fun q => by rw [q]⟩
noncomputable def fitW (c : Nat) (row : List Bool) : Bool := decide (2 ≤ (lapsW row).length) && ((lapsW row).getD ((lapsW row).length - 2) 0 == c)
noncomputable def bw : Nat → List (List Bool)
  | 0 => [[]]
  | n + 1 => (bw n).flatMap fun w => [true :: w, false :: w]
theorem mem_bw : ∀ w : List Bool, w ∈ bw w.length
  | [] => by simp [bw]
  | x :: w => by
    have := mem_bw w
    simp only [List.length_cons, bw, List.mem_flatMap]
    exact ⟨w, this, by cases x <;> simp⟩
theorem fit_all : ∀ n ∈ [1, 2, 3, 4], ∀ w ∈ bw n, ∀ g ∈ List.range 7, 2 * n + g + 1 ≤ 9 → (fitW n (w ++ List.replicate g false ++ [false] ++ w) || fitW n (w ++ List.replicate g false ++ [true] ++ w)) = true := by decide +kernel
noncomputable def Bin (a b : Nat) (m : List Nat) : Prop := ∃ w, m = cab a b w
theorem row_cab (a b : Nat) (w : List Bool) (n p : Nat) (x : Bool) : rowL b (cab a b w) n p (if x then a else b) = cab a b (w ++ List.replicate (2 * p - n - 1) false ++ [x] ++ w) := by
  simp [rowL, cab]
theorem fit_cab {a b : Nat} (hab : a ≠ b) (w row : List Bool) : fitB (cab a b w) (cab a b row) = fitW w.length row := by
  unfold fitB fitW bord
  rw [laps_cab hab]
  simp [cab]
theorem stepA {a b : Nat} (hab : a ≠ b) {t m' : List Nat} (h9 : t.length ≤ 9) (h : 1 < (lapsL t).length) (h2 : ¬ 2 * stp t ≤ t.length) (hm : lapsL m' = lapsL (nxt t)) (hlm : m'.length = (nxt t).length) (hbin : Bin a b m') :
    lapsL (back1 a b m' (t.length, stp t)) = lapsL t ∧ (back1 a b m' (t.length, stp t)).length = t.length ∧ Bin a b (back1 a b m' (t.length, stp t)) := by
  have hs := stp_pos h
  have hbl := bord_lt h
  have hnx : nxt t = t.drop (stp t) := by unfold nxt; rw [if_neg h2]
  have hbs : bord t = t.length - stp t := by unfold stp; omega
  rw [hnx] at hm hlm
  have hlt : (t.drop (stp t)).length = bord t := by rw [List.length_drop]; omega
  rw [hlt] at hlm
  obtain ⟨w, rfl⟩ := hbin
  have hwl : w.length = bord t := by rw [← hlm]; simp [cab]
  have hb : back1 a b (cab a b w) (t.length, stp t) = mkRow a b (cab a b w) t.length (stp t) := by
    unfold back1; rw [if_neg h2]
  rw [hb]
  have hfit := fit_all w.length (by simp; omega) w (mem_bw w) (2 * stp t - t.length - 1) (by rw [List.mem_range]; omega) (by omega)
  obtain ⟨x, hM, hf⟩ : ∃ x : Bool, mkRow a b (cab a b w) t.length (stp t) = cab a b (w ++ List.replicate (2 * stp t - t.length - 1) false ++ [x] ++ w) ∧ fitW w.length (w ++ List.replicate (2 * stp t - t.length - 1) false ++ [x] ++ w) = true := by
    have r0 := row_cab a b w t.length (stp t) false
    have r1 := row_cab a b w t.length (stp t) true
    simp only [Bool.false_eq_true, if_false, if_true] at r0 r1
    unfold mkRow
    rw [r0, r1, fit_cab hab, fit_cab hab]
    by_cases q : fitW w.length (w ++ List.replicate (2 * stp t - t.length - 1) false ++ [false] ++ w) = true
    · exact ⟨false, by rw [if_pos q], q⟩
    · have q' : fitW w.length (w ++ List.replicate (2 * stp t - t.length - 1) false ++ [true] ++ w) = true := by
        rcases Bool.or_eq_true_iff.mp hfit with y | y
        · exact absurd y q
        · exact y
      exact ⟨true, by rw [if_neg q, if_pos q'], q'⟩
  rw [hM]
  rw [← fit_cab hab] at hf
  have hlM : (cab a b (w ++ List.replicate (2 * stp t - t.length - 1) false ++ [x] ++ w)).length = t.length := by
    simp [cab]; omega
  have hdrop : (cab a b (w ++ List.replicate (2 * stp t - t.length - 1) false ++ [x] ++ w)).drop (stp t) = cab a b w := by
    have e : cab a b (w ++ List.replicate (2 * stp t - t.length - 1) false ++ [x] ++ w) = cab a b (w ++ List.replicate (2 * stp t - t.length - 1) false ++ [x]) ++ cab a b w := by simp [cab]
    rw [e]
    exact List.drop_left' (by simp [cab]; omega)
  refine ⟨?_, hlM, _, rfl⟩
  generalize cab a b (w ++ List.replicate (2 * stp t - t.length - 1) false ++ [x] ++ w) = M at *
  unfold fitB at hf
  rw [Bool.and_eq_true, decide_eq_true_eq, beq_iff_eq] at hf
  obtain ⟨hf1, hf2⟩ := hf
  have hf2' : bord M = bord t := by rw [hf2, hlm]
  have hsM : stp M = stp t := by unfold stp; rw [hf2', hlM]
  refine laps_ext hlM fun s h1 hs => ?_
  rw [laps_bord (t := M) (by omega) h1 (by omega), laps_bord h h1 hs, hf2', hsM, hdrop, hlM]
  constructor
  · rintro (⟨q1, q2⟩ | q)
    · exact Or.inl ⟨q1, (laps_of hm (by rw [hlt, hlm]) h1 (by omega)).mp q2⟩
    · exact Or.inr q
  · rintro (⟨q1, q2⟩ | q)
    · exact Or.inl ⟨q1, (laps_of hm (by rw [hlt, hlm]) h1 (by omega)).mpr q2⟩
    · exact Or.inr q
theorem bin_take {a b : Nat} {m : List Nat} (h : Bin a b m) (k : Nat) : Bin a b (m.take k) := by
  obtain ⟨w, rfl⟩ := h
  exact ⟨w.take k, by simp [cab]⟩
theorem bin_app {a b : Nat} {m l : List Nat} (h : Bin a b m) (h' : Bin a b l) : Bin a b (m ++ l) := by
  obtain ⟨w, rfl⟩ := h
  obtain ⟨v, rfl⟩ := h'
  exact ⟨w ++ v, by simp [cab]⟩
theorem bin_rep {a b : Nat} {m : List Nat} (h : Bin a b m) : ∀ k, Bin a b (List.replicate k m).flatten
  | 0 => ⟨[], rfl⟩
  | k + 1 => by rw [List.replicate_succ, List.flatten_cons]; exact bin_app h (bin_rep h k)
/-- a text of two signs laps as the text does -/
theorem two_law {a b : Nat} (hab : a ≠ b) : ∀ (n : Nat) (t : List Nat), t.length ≤ n → t ≠ [] → t.length ≤ 9 → lapsL (twoL t a b) = lapsL t ∧ (twoL t a b).length = t.length ∧ Bin a b (twoL t a b)
  | 0, t, hn, h0, _ => absurd (List.length_eq_zero_iff.mp (by omega)) h0
  | n + 1, t, hn, h0, h9 => by
    have hpos := List.length_pos_iff.mpr h0
    by_cases h : 1 < (lapsL t).length
    · have hx := nxt_lt h
      obtain ⟨e1, e2, e3⟩ := two_law hab n (nxt t) (by omega) (fun q => by rw [q] at hx; exact absurd hx.2 (by decide)) (by omega)
      rw [two_rec a b h]
      by_cases h2 : 2 * stp t ≤ t.length
      · obtain ⟨q1, q2⟩ := stepB a b h h2 e1 e2
        refine ⟨q1, q2, ?_⟩
        unfold back1
        rw [if_pos h2]
        exact bin_app (bin_rep (bin_take e3 _) _) (bin_take e3 _)
      · exact stepA hab h9 h h2 e1 e2 e3
    · rw [two_base a b h]
      obtain ⟨k, hk⟩ : ∃ k, t.length = k + 1 := ⟨t.length - 1, by omega⟩
      have hl : (a :: List.replicate (t.length - 1) b).length = t.length := by simp; omega
      refine ⟨laps_ext hl fun s h1 hs => ?_, hl, ⟨true :: List.replicate (t.length - 1) false, by simp [cab]⟩⟩
      rw [hk, show k + 1 - 1 = k by omega, base_laps hab h1 (by omega)]
      constructor
      · intro e
        have : s = t.length := by omega
        rw [this]; exact len_lap
      · intro hb
        by_cases e : s = k + 1
        · exact e
        · exact absurd (two_laps h1 (by omega) hb) h
end
section
noncomputable def R8L : List Nat := [38, 60, 62, 34, 13, 10, 9, 122]
theorem r8_mem {c : Nat} (h : R8 c) : c ∈ R8L := by
  unfold R8 at h; simp only [R8L, List.mem_cons, List.not_mem_nil, or_false]; exact h
/-- a code: first letters stand first alone, last ones last alone; no two signs are written alike -/
structure CodeW (A : Nat → Prop) (h : Nat → List Nat) (F Z : Nat → Prop) : Prop where
  hd : ∀ c, A c → ∃ x tl, h c = x :: tl ∧ F x ∧ ∀ y ∈ tl, ¬ F y
  lst : ∀ c, A c → ∃ ini z, h c = ini ++ [z] ∧ Z z ∧ ∀ y ∈ ini, ¬ Z y
  inj : ∀ c d, A c → A d → h c = h d → c = d
section
variable {A : Nat → Prop} {h : Nat → List Nat} {F Z : Nat → Prop}
theorem CodeW.pos (C : CodeW A h F Z) {c : Nat} (hc : A c) : 1 ≤ (h c).length := by
  obtain ⟨x, tl, e, _⟩ := C.hd c hc
  rw [e]; simp
theorem CodeW.boundF (C : CodeW A h F Z) : ∀ (t : List Nat), (∀ c ∈ t, A c) → ∀ (q x : Nat), (t.flatMap h)[q]? = some x → F x → ∃ j, j < t.length ∧ q = ((t.take j).flatMap h).length
  | [], _, q, x, hx, _ => by simp at hx
  | c :: t, ha, q, x, hx, hF => by
    rw [List.flatMap_cons] at hx
    obtain ⟨y, tl, e, hy, htl⟩ := C.hd c (ha c (.head _))
    by_cases hq : q < (h c).length
    · rw [List.getElem?_append_left hq, e] at hx
      cases q with
      | zero => exact ⟨0, by simp, by simp⟩
      | succ q =>
        rw [List.getElem?_cons_succ] at hx
        exact absurd hF (htl x (List.mem_of_getElem? hx))
    · rw [List.getElem?_append_right (by omega)] at hx
      obtain ⟨j, hj, e2⟩ := C.boundF t (fun d hd => ha d (.tail _ hd)) _ _ hx hF
      refine ⟨j + 1, by simp; omega, ?_⟩
      rw [List.take_succ_cons, List.flatMap_cons, List.length_append, ← e2]; omega
theorem CodeW.boundZ (C : CodeW A h F Z) : ∀ (t : List Nat), (∀ c ∈ t, A c) → ∀ (q x : Nat), (t.flatMap h)[q]? = some x → Z x → ∃ j, 1 ≤ j ∧ j ≤ t.length ∧ q + 1 = ((t.take j).flatMap h).length
  | [], _, q, x, hx, _ => by simp at hx
  | c :: t, ha, q, x, hx, hZ => by
    rw [List.flatMap_cons] at hx
    obtain ⟨ini, z, e, hz, hini⟩ := C.lst c (ha c (.head _))
    by_cases hq : q < (h c).length
    · rw [List.getElem?_append_left hq, e] at hx
      have hl : (h c).length = ini.length + 1 := by rw [e]; simp
      by_cases hq2 : q < ini.length
      · rw [List.getElem?_append_left hq2] at hx
        exact absurd hZ (hini x (List.mem_of_getElem? hx))
      · exact ⟨1, Nat.le_refl _, by simp, by rw [List.take_succ_cons, List.take_zero, List.flatMap_cons, List.flatMap_nil, List.append_nil, hl]; omega⟩
    · rw [List.getElem?_append_right (by omega)] at hx
      obtain ⟨j, hj1, hj, e2⟩ := C.boundZ t (fun d hd => ha d (.tail _ hd)) _ _ hx hZ
      refine ⟨j + 1, by omega, by simp; omega, ?_⟩
      rw [List.take_succ_cons, List.flatMap_cons, List.length_append, ← e2]; omega
theorem CodeW.first (C : CodeW A h F Z) {t : List Nat} (ha : ∀ c ∈ t, A c) (h0 : t ≠ []) : ∃ x, (t.flatMap h)[0]? = some x ∧ F x := by
  cases t with
  | nil => exact absurd rfl h0
  | cons c t =>
    obtain ⟨y, tl, e, hy, _⟩ := C.hd c (ha c (.head _))
    exact ⟨y, by rw [List.flatMap_cons, e]; rfl, hy⟩
theorem CodeW.last (C : CodeW A h F Z) {t : List Nat} (ha : ∀ c ∈ t, A c) (h0 : t ≠ []) : ∃ x, (t.flatMap h)[(t.flatMap h).length - 1]? = some x ∧ Z x := by
  obtain ⟨l, c, rfl⟩ : ∃ l c, t = l ++ [c] := ⟨t.dropLast, t.getLast h0, (List.dropLast_concat_getLast h0).symm⟩
  obtain ⟨ini, z, e, hz, _⟩ := C.lst c (ha c (by simp))
  refine ⟨z, ?_, hz⟩
  rw [List.flatMap_append, List.flatMap_cons, List.flatMap_nil, List.append_nil, e, ← List.append_assoc]
  simp
theorem CodeW.dec (C : CodeW A h F Z) : ∀ (u v : List Nat), (∀ c ∈ u, A c) → (∀ c ∈ v, A c) → u.flatMap h = v.flatMap h → u = v
  | [], [], _, _, _ => rfl
  | [], d :: v, _, hv, e => by
    have := C.pos (hv d (.head _))
    have e2 := congrArg List.length e
    rw [List.flatMap_cons, List.flatMap_nil, List.length_append, List.length_nil] at e2
    omega
  | c :: u, [], hu, _, e => by
    have := C.pos (hu c (.head _))
    have e2 := congrArg List.length e
    rw [List.flatMap_cons, List.flatMap_nil, List.length_append, List.length_nil] at e2
    omega
  | c :: u, d :: v, hu, hv, e => by
    have hu' : ∀ c ∈ u, A c := fun x hx => hu x (.tail _ hx)
    have hv' : ∀ c ∈ v, A c := fun x hx => hv x (.tail _ hx)
    rw [List.flatMap_cons, List.flatMap_cons] at e
    have key : ∀ (c d : Nat) (u v : List Nat), A c → A d → (∀ c ∈ u, A c) → h c ++ u.flatMap h = h d ++ v.flatMap h → ¬ (h c).length < (h d).length := by
      intro c d u v hc hd hu e hlt
      obtain ⟨y, tl, ed, hy, htl⟩ := C.hd d hd
      have hp := C.pos hc
      by_cases h0 : u = []
      · subst h0
        have e2 := congrArg List.length e
        rw [List.flatMap_nil, List.append_nil, List.length_append] at e2
        omega
      · obtain ⟨x, hx, hFx⟩ := C.first hu h0
        have e3 : (h c ++ u.flatMap h)[(h c).length]? = some x := by
          rw [List.getElem?_append_right (Nat.le_refl _), Nat.sub_self]; exact hx
        rw [e, List.getElem?_append_left hlt, ed] at e3
        obtain ⟨k, hk⟩ : ∃ k, (h c).length = k + 1 := ⟨(h c).length - 1, by omega⟩
        rw [hk, List.getElem?_cons_succ] at e3
        exact htl x (List.mem_of_getElem? e3) hFx
    have h1 := key c d u v (hu c (.head _)) (hv d (.head _)) hu' e
    have h2 := key d c v u (hv d (.head _)) (hu c (.head _)) hv' e.symm
    have hl : (h c).length = (h d).length := by omega
    obtain ⟨e1, e2⟩ := List.append_inj e hl
    rw [C.inj c d (hu c (.head _)) (hv d (.head _)) e1, C.dec u v hu' hv' e2]
theorem flat_split (h : Nat → List Nat) (t : List Nat) (j : Nat) : t.flatMap h = (t.take j).flatMap h ++ (t.drop j).flatMap h := by
  rw [← List.flatMap_append, List.take_append_drop]
theorem CodeW.laps (C : CodeW A h F Z) {t : List Nat} (ha : ∀ c ∈ t, A c) {m : Nat} (h1 : 1 ≤ m) (hm : m ≤ (t.flatMap h).length) : lapB (t.flatMap h) m = true ↔ ∃ k, 1 ≤ k ∧ k ≤ t.length ∧ lapB t k = true ∧ m = ((t.take k).flatMap h).length := by
  have at_ : ∀ c ∈ t, A c := ha
  constructor
  · intro hb
    have hne : t ≠ [] := fun q => by subst q; simp at hm; omega
    unfold lapB at hb
    have hb := eq_of_beq hb
    obtain ⟨x, hx, hFx⟩ := C.first ha hne
    obtain ⟨z, hz, hZz⟩ := C.last ha hne
    have q1 : (t.flatMap h)[(t.flatMap h).length - m]? = some x := by
      have := congrArg (fun l : List Nat => l[0]?) hb
      simp only [List.getElem?_drop, Nat.add_zero] at this
      rw [this, List.getElem?_take_of_lt (by omega)]; exact hx
    have q2 : (t.flatMap h)[m - 1]? = some z := by
      have := congrArg (fun l : List Nat => l[m - 1]?) hb
      simp only [List.getElem?_drop] at this
      rw [List.getElem?_take_of_lt (by omega), show (t.flatMap h).length - m + (m - 1) = (t.flatMap h).length - 1 by omega] at this
      rw [← this]; exact hz
    obtain ⟨j, hj, ej⟩ := C.boundF t ha _ _ q1 hFx
    obtain ⟨k, hk1, hk, ek⟩ := C.boundZ t ha _ _ q2 hZz
    have ek' : m = ((t.take k).flatMap h).length := by omega
    have e1 : (t.flatMap h).drop ((t.flatMap h).length - m) = (t.drop j).flatMap h := by
      rw [ej]
      conv => lhs; rw [flat_split h t j]
      exact List.drop_left
    have e2 : (t.flatMap h).take m = (t.take k).flatMap h := by
      rw [ek']
      conv => lhs; rw [flat_split h t k]
      exact List.take_left
    rw [e1, e2] at hb
    have hd := C.dec _ _ (fun c hc => ha c (List.mem_of_mem_drop hc)) (fun c hc => ha c (List.mem_of_mem_take hc)) hb
    refine ⟨k, hk1, hk, ?_, ek'⟩
    have hjk : j = t.length - k := by
      have := congrArg List.length hd
      rw [List.length_drop, List.length_take] at this
      omega
    unfold lapB
    rw [← hjk, hd]; exact beq_self_eq_true _
  · rintro ⟨k, hk1, hk, hb, rfl⟩
    unfold lapB at hb ⊢
    have hb := eq_of_beq hb
    rw [beq_iff_eq]
    have e2 : (t.flatMap h).take ((t.take k).flatMap h).length = (t.take k).flatMap h := by
      conv => lhs; arg 2; rw [flat_split h t k]
      exact List.take_left
    have e3 : (t.flatMap h).length - ((t.take k).flatMap h).length = ((t.take (t.length - k)).flatMap h).length := by
      have := congrArg List.length (flat_split h t (t.length - k))
      rw [List.length_append, hb] at this
      omega
    have e1 : (t.flatMap h).drop ((t.take (t.length - k)).flatMap h).length = (t.drop (t.length - k)).flatMap h := by
      conv => lhs; arg 2; rw [flat_split h t (t.length - k)]
      exact List.drop_left
    rw [e2, e3, e1, hb]
theorem sorted_eq : ∀ (l k : List Nat), l.Pairwise (· < ·) → k.Pairwise (· < ·) → (∀ x, x ∈ l ↔ x ∈ k) → l = k
  | [], [], _, _, _ => rfl
  | [], b :: k, _, _, h => by have := (h b).mpr (.head _); cases this
  | a :: l, [], _, _, h => by have := (h a).mp (.head _); cases this
  | a :: l, b :: k, hl, hk, h => by
    rw [List.pairwise_cons] at hl hk
    have hab : a = b := by
      have h1 := (h a).mp (.head _)
      have h2 := (h b).mpr (.head _)
      rcases List.mem_cons.mp h1 with q | q
      · exact q
      · rcases List.mem_cons.mp h2 with q' | q'
        · exact q'.symm
        · have := hk.1 a q; have := hl.1 b q'; omega
    subst hab
    rw [sorted_eq l k hl.2 hk.2 fun x => ?_]
    constructor
    · intro hx
      rcases List.mem_cons.mp ((h x).mp (.tail _ hx)) with q | q
      · have := hl.1 x hx; omega
      · exact q
    · intro hx
      rcases List.mem_cons.mp ((h x).mpr (.tail _ hx)) with q | q
      · have := hk.1 x hx; omega
      · exact q
theorem CodeW.mono (C : CodeW A h F Z) {t : List Nat} (ha : ∀ c ∈ t, A c) {i j : Nat} (hij : i < j) (hj : j ≤ t.length) : ((t.take i).flatMap h).length < ((t.take j).flatMap h).length := by
  have e : t.take j = t.take i ++ (t.drop i).take (j - i) := by
    rw [show j = i + (j - i) by omega, List.take_add]; congr 2; omega
  have hne : (t.drop i).take (j - i) ≠ [] := fun q => by
    have := congrArg List.length q
    rw [List.length_take, List.length_drop, List.length_nil] at this; omega
  rw [e, List.flatMap_append, List.length_append]
  obtain ⟨x, hx, _⟩ := C.first (t := (t.drop i).take (j - i)) (fun c hc => ha c (List.mem_of_mem_drop (List.mem_of_mem_take hc))) hne
  have := (List.getElem?_eq_some_iff.mp hx).1
  omega
theorem CodeW.lapsL (C : CodeW A h F Z) {t : List Nat} (ha : ∀ c ∈ t, A c) : Mine.lapsL (t.flatMap h) = (Mine.lapsL t).map fun k => ((t.take k).flatMap h).length := by
  refine sorted_eq _ _ (lapsTo_sorted _ _) ?_ fun x => ?_
  · rw [List.pairwise_map]
    refine List.Pairwise.imp_of_mem (fun {a b} hma hmb hab => ?_) (lapsTo_sorted t t.length)
    exact C.mono ha hab (laps_mem hmb).2.1
  · rw [List.mem_map]
    constructor
    · intro hx
      have hl := laps_mem hx
      obtain ⟨k, hk1, hk, hb, e⟩ := (C.laps ha hl.1 hl.2.1).mp hl.2.2
      exact ⟨k, (mem_laps hk1 hk).mpr hb, e.symm⟩
    · rintro ⟨k, hk, rfl⟩
      have hl := laps_mem hk
      have hp : 1 ≤ ((t.take k).flatMap h).length := by
        have := C.mono ha (i := 0) (j := k) hl.1 hl.2.1
        omega
      have hle : ((t.take k).flatMap h).length ≤ (t.flatMap h).length := by
        rw [flat_split h t k, List.length_append]; omega
      exact (mem_laps hp hle).mpr ((C.laps ha hp hle).mpr ⟨k, hl.1, hl.2.1, hl.2.2, rfl⟩)
end
end
section
open PySem PySem.W PyProof.Rows PySem.Calls
theorem rep_app (c : Nat) (z x y : List Nat) : rep c z (x ++ y) = rep c z x ++ rep c z y := by simp [rep]
/-- the writers write sign by sign -/
theorem hom_eq {f : List Nat → List Nat} {g : Nat → List Nat} (h0 : f [] = []) (ha : ∀ x y, f (x ++ y) = f x ++ f y) {x : List Nat} (h : ∀ c ∈ x, f [c] = g c) : f x = x.flatMap g := by
  induction x with
  | nil => exact h0
  | cons a r ih =>
    have e : a :: r = [a] ++ r := rfl
    rw [e, ha, h a (.head _), ih fun c hc => h c (.tail _ hc)]
    rfl
theorem wr_eq {fw : Nat} {wr : List Nat → List Nat} {mk f0 f1 f2 : List Nat} (h : (fw, wr, mk, f0, f1, f2) ∈ wrT) {x : List Nat} (hx : ∀ c ∈ x, R8 c) : wr x = x.flatMap (wrL mk f0 f1 f2) := by
  simp only [wrT, List.mem_cons, List.not_mem_nil, or_false, Prod.mk.injEq] at h
  rcases h with ⟨_, rfl, rfl, rfl, rfl, rfl⟩ | ⟨_, rfl, rfl, rfl, rfl, rfl⟩ | ⟨_, rfl, rfl, rfl, rfl, rfl⟩ | ⟨_, rfl, rfl, rfl, rfl, rfl⟩ | ⟨_, rfl, rfl, rfl, rfl, rfl⟩
  all_goals
    refine hom_eq rfl (fun a b => by simp only [wr0, wr1, wr2, wr3, wr4, rep_app]) fun c hc => ?_
    have := hx c hc
    unfold R8 at this
    rcases this with rfl | rfl | rfl | rfl | rfl | rfl | rfl | rfl <;> decide
theorem wr_ne {fw : Nat} {wr : List Nat → List Nat} {mk f0 f1 f2 : List Nat} (h : (fw, wr, mk, f0, f1, f2) ∈ wrT) {x : List Nat} (hx : ∀ c ∈ x, R8 c) : (!(S (wr x) == S (x.flatMap (wrL mk f0 f1 f2)))) = false := by
  rw [wr_eq h hx]; simp
theorem wr_free {fw : Nat} {wr : List Nat → List Nat} {mk f0 f1 f2 : List Nat} (h : (fw, wr, mk, f0, f1, f2) ∈ wrT) {x : List Nat} (hx : ∀ c ∈ x, R8 c) : 46 ∉ wr x := by
  rw [wr_eq h hx]
  intro hm
  obtain ⟨c, hc, h46⟩ := List.mem_flatMap.mp hm
  have := hx c hc
  unfold R8 at this
  simp only [wrT, List.mem_cons, List.not_mem_nil, or_false, Prod.mk.injEq] at h
  rcases h with ⟨_, rfl, rfl, rfl, rfl, rfl⟩ | ⟨_, rfl, rfl, rfl, rfl, rfl⟩ | ⟨_, rfl, rfl, rfl, rfl, rfl⟩ | ⟨_, rfl, rfl, rfl, rfl, rfl⟩ | ⟨_, rfl, rfl, rfl, rfl, rfl⟩ <;>
  (rcases this with rfl | rfl | rfl | rfl | rfl | rfl | rfl | rfl <;> revert h46 <;> decide)
/-- the lengths of the writings of the beginnings -/
noncomputable def wlL (mk f0 f1 f2 txt : List Nat) (k : Nat) : Nat := ((txt.take k).flatMap (wrL mk f0 f1 f2)).length
/-- what makes a code, by a look at the eight signs -/
noncomputable def codeOk (h : Nat → List Nat) : Bool :=
  R8L.all (fun c => decide (h c ≠ []) && (h c).tail.all (fun y => !(R8L.map fun d => (h d).headD 0).contains y) && (h c).dropLast.all (fun y => !(R8L.map fun d => (h d).getLastD 0).contains y)) &&
  R8L.all (fun c => R8L.all fun d => decide (h c = h d → c = d))
theorem code_of {h : Nat → List Nat} (ok : codeOk h = true) : CodeW R8 h (fun y => y ∈ R8L.map fun d => (h d).headD 0) (fun y => y ∈ R8L.map fun d => (h d).getLastD 0) := by
  unfold codeOk at ok
  rw [Bool.and_eq_true, List.all_eq_true, List.all_eq_true] at ok
  obtain ⟨o1, o2⟩ := ok
  have o3 : ∀ c, R8 c → h c ≠ [] ∧ (∀ y ∈ (h c).tail, y ∉ R8L.map fun d => (h d).headD 0) ∧ ∀ y ∈ (h c).dropLast, y ∉ R8L.map fun d => (h d).getLastD 0 := by
    intro c hc
    have := o1 c (r8_mem hc)
    rw [Bool.and_eq_true, Bool.and_eq_true, decide_eq_true_eq, List.all_eq_true, List.all_eq_true] at this
    refine ⟨this.1.1, fun y hy q => ?_, fun y hy q => ?_⟩
    · have := this.1.2 y hy
      rw [List.contains_iff_mem.mpr q] at this
      cases this
    · have := this.2 y hy
      rw [List.contains_iff_mem.mpr q] at this
      cases this
  refine ⟨fun c hc => ?_, fun c hc => ?_, fun c d hc hd e => ?_⟩
  · obtain ⟨q1, q2, q3⟩ := o3 c hc
    have hm : (h c).headD 0 ∈ R8L.map fun d => (h d).headD 0 := List.mem_map.mpr ⟨c, r8_mem hc, rfl⟩
    cases e : h c with
    | nil => exact absurd e q1
    | cons x tl =>
      rw [e] at q2 hm
      exact ⟨x, tl, rfl, hm, q2⟩
  · obtain ⟨q1, q2, q3⟩ := o3 c hc
    have hm : (h c).getLastD 0 ∈ R8L.map fun d => (h d).getLastD 0 := List.mem_map.mpr ⟨c, r8_mem hc, rfl⟩
    have e := List.dropLast_concat_getLast q1
    refine ⟨(h c).dropLast, (h c).getLast q1, e.symm, ?_, q3⟩
    rw [List.getLastD_eq_getLast?, List.getLast?_eq_some_getLast q1] at hm
    exact hm
  · have := o2 c (r8_mem hc)
    rw [List.all_eq_true] at this
    exact of_decide_eq_true (this d (r8_mem hd)) e
theorem laps_written {fw : Nat} {wr : List Nat → List Nat} {mk f0 f1 f2 : List Nat} (h : (fw, wr, mk, f0, f1, f2) ∈ wrT) {x : List Nat} (hx : ∀ c ∈ x, R8 c) : lapsL (wr x) = (lapsL x).map (wlL mk f0 f1 f2 x) := by
  rw [wr_eq h hx]
  have ok : codeOk (wrL mk f0 f1 f2) = true := by
    simp only [wrT, List.mem_cons, List.not_mem_nil, or_false, Prod.mk.injEq] at h
    rcases h with ⟨_, rfl, rfl, rfl, rfl, rfl⟩ | ⟨_, rfl, rfl, rfl, rfl, rfl⟩ | ⟨_, rfl, rfl, rfl, rfl, rfl⟩ | ⟨_, rfl, rfl, rfl, rfl, rfl⟩ | ⟨_, rfl, rfl, rfl, rfl, rfl⟩ <;> decide +kernel
  exact (code_of ok).lapsL hx
end
section
open PySem
theorem chain_top {t : List Nat} (h : 1 < (lapsL t).length) : chainL t.length t [] = ([(t.length, stp t)] ++ (chainL (nxt t).length (nxt t) []).1, (chainL (nxt t).length (nxt t) []).2) := by
  have hn := nxt_lt h
  obtain ⟨k, hk⟩ : ∃ k, t.length = k + 1 := ⟨t.length - 1, by omega⟩
  rw [show chainL t.length t [] = chainL (k + 1) t [] by rw [hk], chain_go h, chain_app, chain_fuel k (nxt t).length (nxt t) (by omega) (Nat.le_refl _)]
  simp
/-- what the loop from behind meets at each turn -/
noncomputable def FoldOk (a b : Nat) (ch : List (Nat × Nat)) (made : List Nat) : Prop := ∀ i, i < ch.length → ∃ u M, 1 < (lapsL u).length ∧ u.length ≤ 9 ∧ ch.reverse[i]? = some (u.length, stp u) ∧ (ch.reverse.take i).foldl (back1 a b) made = M ∧ M.length = (nxt u).length ∧ Bin a b M
theorem bin_free {a b : Nat} (ha : a ≠ 46) (hb : b ≠ 46) {m : List Nat} (h : Bin a b m) : 46 ∉ m := by
  obtain ⟨w, rfl⟩ := h
  intro q
  unfold cab at q
  rw [List.mem_map] at q
  obtain ⟨x, _, e⟩ := q
  cases x
  · exact hb e
  · exact ha e
theorem fold_ok {a b : Nat} (hab : a ≠ b) : ∀ (n : Nat) (t : List Nat), t.length ≤ n → t ≠ [] → t.length ≤ 9 → FoldOk a b (chainL t.length t []).1 (a :: List.replicate ((chainL t.length t []).2.length - 1) b)
  | 0, t, hn, h0, _ => absurd (List.length_eq_zero_iff.mp (by omega)) h0
  | n + 1, t, hn, h0, h9 => by
    by_cases h : 1 < (lapsL t).length
    · have hx := nxt_lt h
      have hx0 : nxt t ≠ [] := fun q => by rw [q] at hx; exact absurd hx.2 (by decide)
      have ih := fold_ok hab n (nxt t) (by omega) hx0 (by omega)
      have tl := two_law hab n (nxt t) (by omega) hx0 (by omega)
      rw [chain_top h]
      intro i hi
      rw [List.length_append, List.length_singleton] at hi
      dsimp only at hi ⊢
      rw [List.reverse_append]
      by_cases hi2 : i < (chainL (nxt t).length (nxt t) []).1.length
      · obtain ⟨u, M, e1, e2, e3, e4, e5, e6⟩ := ih i hi2
        refine ⟨u, M, e1, e2, ?_, ?_, e5, e6⟩
        · rw [List.getElem?_append_left (by rw [List.length_reverse]; exact hi2)]; exact e3
        · rw [List.take_append_of_le_length (by rw [List.length_reverse]; omega)]; exact e4
      · have hi3 : i = (chainL (nxt t).length (nxt t) []).1.reverse.length := by rw [List.length_reverse]; omega
        subst hi3
        refine ⟨t, twoL (nxt t) a b, h, h9, ?_, ?_, tl.2.1, tl.2.2⟩
        · rw [List.getElem?_append_right (Nat.le_refl _), Nat.sub_self]; rfl
        · rw [List.take_left]; rfl
    · rw [chain_stop h]
      intro i hi
      exact absurd hi (Nat.not_lt_zero _)
theorem row_bin {a b x : Nat} (hx : x = a ∨ x = b) {core : List Nat} {n p : Nat} (h : Bin a b core) : Bin a b (rowL b core n p x) := by
  unfold rowL
  refine bin_app (bin_app (bin_app h ⟨List.replicate (2 * p - n - 1) false, by simp [cab]⟩) ?_) h
  rcases hx with rfl | rfl
  · exact ⟨[true], by simp [cab]⟩
  · exact ⟨[false], by simp [cab]⟩
theorem bin_lt {a b k : Nat} (ha : a < k) (hb : b < k) {m : List Nat} (h : Bin a b m) : ∀ c ∈ m, c < k := by
  obtain ⟨w, rfl⟩ := h
  intro c q
  unfold cab at q
  rw [List.mem_map] at q
  obtain ⟨x, _, rfl⟩ := q
  cases x
  · exact hb
  · exact ha
theorem fits_mem {a b : Nat} {core : List Nat} {n p i : Nat} {r : List Nat} (h : r ∈ fits a b core n p i) : ∃ x, (x = a ∨ x = b) ∧ r = rowL b core n p x := by
  unfold fits at h
  have h2 := List.mem_of_mem_take (List.mem_filter.mp h).1
  simp only [List.mem_cons, List.not_mem_nil, or_false] at h2
  rcases h2 with rfl | rfl
  · exact ⟨b, .inr rfl, rfl⟩
  · exact ⟨a, .inl rfl, rfl⟩
theorem fits_ok8 {a b : Nat} (ha : a < 128) (hb : b < 128) {core : List Nat} {n p i : Nat} (h : Bin a b core) : Ok8 (fits a b core n p i) := by
  intro r hr
  obtain ⟨x, hx, rfl⟩ := fits_mem hr
  rw [List.all_eq_true]
  intro c hc
  have := bin_lt ha hb (row_bin hx h) c hc
  exact decide_eq_true (by omega)
theorem fits_succ {a b : Nat} {core : List Nat} {n p i : Nat} {row : List Nat} (h : [rowL b core n p b, rowL b core n p a][i]? = some row) : fits a b core n p (i + 1) = fits a b core n p i ++ if fitB core row = true then [row] else [] := by
  unfold fits
  rw [List.take_add_one, h, List.filter_append]
  congr 1
  simp only [Option.toList_some, List.filter_cons, List.filter_nil]
theorem strs_get {vs : List Value} {l : List (List Nat)} (h : StrsAre vs l) : ∀ {i : Nat} {v : Value}, vs[i]? = some v → ∃ x t, v = .str (S x) t ∧ l[i]? = some x := by
  induction h with
  | nil => intro i v e; cases e
  | cons x t _ ih =>
    intro i v e
    cases i with
    | zero => cases e; exact ⟨_, _, rfl, rfl⟩
    | succ i => exact ih (by simpa using e)
end
section
open PySem PySem.W PyProof.Rows PySem.Calls
section
variable {prog : Program} {w : World} {A : Around} {E : Value → Shared → Prop} {s : Shared} {h₀ : Heap} {L : Addr} {m : PySem.Str → Option Value} {news : List (Addr × Obj)}
theorem r_m21 {l : Addr} {vs : List Value} {k : Nat} {t : List Nat} {u1 u2 : Tok} {ops : List Value} {value slice : PySem.Expr} {Q : Value → Shared → Prop}
    (F : Fr h₀ L s.heap m) (N : News h₀ L s.heap news) (hm : (l, listOf vs.toArray k) ∈ news) (hI : IntsAre vs (nI (lapsL t))) (hz : t.length ≤ 900)
    (h : ∀ D ws h', Fr h₀ L h' m → News h₀ L h' ((D, listOf (List.toArray ws) 0) :: news) → (∀ p ∈ news, p.1 < D) → IntsAre ws (lapM t) → Q (.ref D) { s with heap := h' })
    (hs : subscripted slice false (.ref l) (.ref s.heap.objs.size) = operate ops (getItem (.ref l) (.ref s.heap.objs.size))) :
    wpAny (model prog w) A (subscriptTail value slice (.ref l) (.ref s.heap.objs.size)) Q E { s with heap := s.heap.push { cls := .type "slice", data := .fields #[.int (-2) u1, .int (-1) u2, .none] } } := by
  have hl : s.heap.IsList l vs.toArray := ⟨_, N.get hm, rfl, _, rfl⟩
  have hle := laps_le t
  refine kba_turn (value' := .Name (PySem.Str.ofString "x") default) (fun r => rfl) (slice_list3 F N hl (.int _ _) (.int _ _) .none (by decide) (fun h' F' N' => h _ (slicePick vs.toArray (some (-2)) (some (-1)) none).toList h' F' (by rw [Array.toArray_toList]; exact N') (fun p hp => Nat.lt_succ_of_lt (Heap.lt_size (N p hp).1)) ?_) hs (fun r => rfl) ?_)
  · have := hI.pick (some (-2)) (some (-1)) none
    rw [pick_laps] at this
    exact this
  · have e := hI.length
    rw [nI, List.length_map] at e
    rw [List.size_toArray, sizeLine_eq]; omega
theorem r_ne_cons {a b : Addr} {v : Value} {vs : List Value} {n : List Nat} {ns : List (List Nat)} {Q : Value → Shared → Prop} (ha : s.heap.IsList a (v :: vs).toArray) (hb : s.heap.IsList b ([] : List Value).toArray) (hi : StrsAre (v :: vs) (n :: ns)) (o1 : Ok8 (n :: ns)) (hu : A.units + 64 < cLine) (h : Q (.bool true) s) :
    wpAny (model prog w) A (compareOp .NotEq (.ref a) (.ref b)) Q E s :=
  r_ne_strs ha hb hi .nil o1 (by intro x hx; cases hx) hu (by rw [decide_eq_false (List.cons_ne_nil _ _)]; exact h)
end
end
section
theorem grown_le (x y z : List Nat) (h : Int) : (grownL x y z h).length ≤ 9 := by unfold grownL; rw [List.length_take]; omega
theorem grown1_ne {x y : List Nat} {n : Int} (h : x ≠ []) : grown1 x y n ≠ [] := by
  unfold grown1
  simp [h]
theorem grown_ne {x y z : List Nat} {h : Int} (hx : x ≠ []) : grownL x y z h ≠ [] := by
  unfold grownL
  have := List.length_pos_iff.mpr (grown1_ne (y := z) (n := 1 + h / 2 % 2) (grown1_ne (y := y) (n := 1 + h % 2) hx))
  intro q
  have e := congrArg List.length q
  rw [List.length_take, List.length_nil] at e
  omega
theorem rpt_mem {l : List Nat} {n : Int} {c : Nat} (h : c ∈ rpt l n) : c ∈ l := by
  unfold rpt at h
  obtain ⟨k, hk, hc⟩ := List.mem_flatten.mp h
  rw [(List.mem_replicate.mp hk).2] at hc
  exact hc
theorem grown1_mem {x y : List Nat} {n : Int} {c : Nat} (h : c ∈ grown1 x y n) : c ∈ x ∨ c ∈ y := by
  unfold grown1 at h
  rcases List.mem_append.mp h with h | h
  · exact List.mem_append.mp (rpt_mem h)
  · exact .inl h
theorem grown_r8 {x y z : List Nat} {h : Int} (hx : ∀ c ∈ x, R8 c) (hy : ∀ c ∈ y, R8 c) (hz : ∀ c ∈ z, R8 c) : ∀ c ∈ grownL x y z h, R8 c := by
  intro c hc
  unfold grownL at hc
  rcases grown1_mem (List.mem_of_mem_take hc) with q | q
  · rcases grown1_mem q with q | q
    · exact hx c q
    · exact hy c q
  · exact hz c q
theorem r8_free {l : List Nat} (h : ∀ c ∈ l, R8 c) : 46 ∉ l := fun q => by have := h 46 q; unfold R8 at this; omega
end
section
open PySem PySem.W PyProof.Rows PySem.Calls
example : True := by
  k_with_none
  w_top off
  trivial
local macro_rules | `(tactic| walk_at "call builtin:len") => `(tactic| k_extra "call builtin:len")
local macro_rules | `(tactic| walk_at "call builtin:str.startswith") => `(tactic| k_extra "call builtin:str.startswith")
local macro_rules | `(tactic| walk_at "call builtin:str.endswith") => `(tactic| k_extra "call builtin:str.endswith")
local macro_rules | `(tactic| walk_at "truthy str") => `(tactic| k_extra "truthy str")
local macro_rules | `(tactic| walk_at "exec For Name Name cons nil") => `(tactic| k_extra "exec For Name Name cons nil")
local macro_rules | `(tactic| walk_at "pyIter ref") => `(tactic| k_extra "pyIter ref")
local macro_rules | `(tactic| walk_at "eval Name") => `(tactic| k_extra "eval Name")
local macro_rules | `(tactic| walk_at "binaryOp Add str str") => `(tactic| k_extra "binaryOp Add str str")
local macro_rules | `(tactic| walk_at "subscriptTail Name Slice str ref") => `(tactic| k_extra "subscriptTail Name Slice str ref")
local macro_rules | `(tactic| walk_at "exec For Name Call cons nil") => `(tactic| k_extra "exec For Name Call cons nil")
local macro_rules | `(tactic| walk_at "call ref") => `(tactic| k_extra "call ref")
local macro_rules | `(tactic| walk_at "call builtin:list.append") => `(tactic| k_extra "call builtin:list.append")
local macro_rules | `(tactic| k_room) => `(tactic| k_extra "m_k_room")
local macro_rules | `(tactic| k_units) => `(tactic| k_extra "m_k_units")
local macro_rules | `(tactic| walk_at "callWith") => `(tactic| k_extra "callWith")
local macro_rules | `(tactic| walk_at "binaryOp FloorDiv int int") => `(tactic| k_extra "binaryOp FloorDiv int int")
local macro_rules | `(tactic| walk_at "binaryOp Mod int int") => `(tactic| k_extra "binaryOp Mod int int")
local macro_rules | `(tactic| walk_at "subscriptTail Name BinOp str int") => `(tactic| k_extra "subscriptTail Name BinOp str int")
local macro_rules | `(tactic| walk_at "subscriptTail Name Constant str int") => `(tactic| k_extra "subscriptTail Name Constant str int")
local macro_rules | `(tactic| walk_at "subscriptTail Name Name str int") => `(tactic| k_extra "subscriptTail Name Name str int")
local macro_rules | `(tactic| walk_at "call builtin:str.replace") => `(tactic| k_extra "call builtin:str.replace")
local macro_rules | `(tactic| walk_at "call builtin:str.join") => `(tactic| k_extra "call builtin:str.join")
local macro_rules | `(tactic| walk_at "binaryOp Mult str int") => `(tactic| k_extra "binaryOp Mult str int")
local macro_rules | `(tactic| walk_at "compareOp NotEq ref ref") => `(tactic| k_extra "compareOp NotEq ref ref")
local macro_rules | `(tactic| walk_at "call builtin:list.pop") => `(tactic| k_extra "call builtin:list.pop")
local macro_rules | `(tactic| walk_at "call builtin:iter") => `(tactic| k_extra "call builtin:iter")
local macro_rules | `(tactic| walk_at "compareOp In str str") => `(tactic| k_extra "compareOp In str str")
local macro_rules | `(tactic| walk_at "loadName") => `(tactic| k_extra "loadName")
local macro_rules | `(tactic| walk_at "inplaceOp Add str str") => `(tactic| k_extra "inplaceOp Add str str")
local macro_rules | `(tactic| walk_at "eval ListComp") => `(tactic| k_extra "eval ListComp")
local macro_rules | `(tactic| walk_at "exec If") => `(tactic| k_extra "exec If")
local macro_rules | `(tactic| walk_at "call type:list") => `(tactic| k_extra "call type:list")
local macro_rules | `(tactic| walk_at "call builtin:list.reverse") => `(tactic| k_extra "call builtin:list.reverse")
local macro_rules | `(tactic| walk_at "pyIter str") => `(tactic| k_extra "pyIter str")
local macro_rules | `(tactic| walk_at "call type:enumerate") => `(tactic| k_extra "call type:enumerate")
local macro_rules | `(tactic| walk_at "exec Assign cons ListComp") => `(tactic| k_extra "exec Assign cons ListComp")
local macro_rules | `(tactic| walk_at "CompSrc") => `(tactic| k_extra "CompSrc")
local macro_rules | `(tactic| walk_at "CompEnd") => `(tactic| k_extra "CompEnd")
local macro_rules | `(tactic| walk_at "FinE") => `(tactic| k_extra "FinE")
local macro_rules | `(tactic| walk_at "FinA") => `(tactic| k_extra "FinA")
local macro_rules | `(tactic| k_ne) => `(tactic| k_extra "m_k_ne")
local macro_rules | `(tactic| walk_at "CompSrcT") => `(tactic| k_extra "CompSrcT")
local macro_rules | `(tactic| walk_at "execs cons") => `(tactic| k_extra "execs cons")
local macro_rules | `(tactic| walk_at "subscriptTail Name Slice ref ref") => `(tactic| k_extra "subscriptTail Name Slice ref ref")
local macro_rules | `(tactic| walk_at "call builtin:sum") => `(tactic| k_extra "call builtin:sum")
local macro_rules | `(tactic| walk_at "exec Assign cons Subscript") => `(tactic| k_extra "exec Assign cons Subscript")
local macro_rules | `(tactic| walk_at "subscriptTail") => `(tactic| k_extra "subscriptTail")
local macro_rules | `(tactic| walk_at "compareOp NotEq str str") => `(tactic| k_extra "compareOp NotEq str str")
local macro_rules | `(tactic| walk_at "compareOp NotEq int int") => `(tactic| k_extra "compareOp NotEq int int")
local macro_rules | `(tactic| walk_at "call builtin:str.count") => `(tactic| k_extra "call builtin:str.count")
local macro_rules | `(tactic| walk_at "callWith ref") => `(tactic| k_extra "callWith ref")
local macro_rules | `(tactic| walk_at "exec While") => `(tactic| k_extra "exec While")
local macro_rules | `(tactic| walk_at "subscriptTail Name UnaryOp ref int") => `(tactic| k_extra "subscriptTail Name UnaryOp ref int")
local macro_rules | `(tactic| k_all) => `(tactic| k_extra "m_k_all")
local macro_rules | `(tactic| walk_at "eval IfExp") => `(tactic| k_extra "eval IfExp")
local macro_rules | `(tactic| walk_at "compareOp Eq ref ref") => `(tactic| k_extra "compareOp Eq ref ref")
section
local macro_rules | `(tactic| walk_at "zz0") => `(tactic| fail)
local macro_rules | `(tactic| walk_at "zz1") => `(tactic| fail)
local macro_rules | `(tactic| walk_at "zz2") => `(tactic| fail)
example : True := by
  k_with_none
  w_top off
  k_with "olt" => (first | assumption | ((fail_if_success refine oM ?_); refine oL ?_; k_extra "ole") | k_extra "olh")
  k_with "olh" => (refine oH (by assumption) (by k_extra "ole"))
  k_with "ole" => (first | exact Nat.le_refl _ | assumption | exact oB | ((first | refine oA ?_ | refine oA2 ?_ | refine oA3 ?_); k_extra "ocl") | (refine oS ?_; k_extra "ole") | (refine Nat.le_of_lt ?_; (first | assumption | k_extra "olh")) | exact oE)
  k_with "olt2" => (first | k_extra "oas" | ((fail_if_success refine oM ?_); refine oL ?_; k_extra "ole2") | k_extra "olh2")
  k_with "olh2" => (refine oH (by k_extra "oas") (by k_extra "ole2"))
  k_with "ole2" => (first | exact Nat.le_refl _ | k_extra "oas" | exact oB | ((first | refine oA ?_ | refine oA2 ?_ | refine oA3 ?_); k_extra "ocl") | (refine oS ?_; k_extra "ole2") | (refine Nat.le_of_lt ?_; (first | k_extra "oas" | k_extra "olh2")) | exact oE)
  k_with "opu" => (first | exact oB | exact Nat.le_refl _ | (refine oS ?_; k_extra "opu"))
  k_with "olt0" => (refine oL ?_; k_extra "opu")
  k_with "one" => (first | (refine Nat.ne_of_gt ?_; (fail_if_success refine oM ?_); k_extra "olt0") | (refine Nat.ne_of_lt ?_; (fail_if_success refine oM ?_); k_extra "olt0") | exact Ne.symm (by assumption) | (refine Nat.ne_of_gt ?_; (fail_if_success refine oM ?_); k_extra "oas") | (refine Nat.ne_of_lt ?_; (fail_if_success refine oM ?_); k_extra "oas") | (refine Nat.ne_of_gt ?_; (fail_if_success refine oM ?_); k_extra "odd") | (refine Nat.ne_of_lt ?_; (fail_if_success refine oM ?_); k_extra "odd") | (refine Nat.ne_of_gt ?_; (fail_if_success refine oM ?_); k_extra "olt") | (refine Nat.ne_of_lt ?_; (fail_if_success refine oM ?_); k_extra "olt") | (refine Nat.ne_of_gt ?_; (fail_if_success refine oM ?_); k_extra "olt2") | (refine Nat.ne_of_lt ?_; (fail_if_success refine oM ?_); k_extra "olt2") | decide)
  k_with "ol1" => (first | ((fail_if_success refine oM ?_); first | k_extra "oas" | k_extra "olt0" | k_extra "odd" | k_extra "olt" | k_extra "olt2") | k_extra "ocl" | exact oT0 | exact oT5)
  k_with "oe1" => (first | ((fail_if_success refine oN ?_); first | k_extra "oas" | k_extra "opu" | k_extra "ole" | k_extra "ole2" | exact oE (by k_extra "oas")) | k_extra "ocl" | k_extra "olit" | k_extra "oas")
  k_with "olit" => (first | exact oT4 | exact oP | exact oP2 | exact oT1 | exact oT2 | exact oT3 | exact oQ5 | exact oQ1 | exact oQ2 | exact oQ3 | exact oQ4 | exact oQ6 | exact oD)
  k_with "ocl" => (with_unfolding_all exact Nat.le_of_ble_eq_true rfl)
  k_with "oas" => (first | assumption | exact oa1 | exact ob1 | exact oa2 | exact ob2 | exact oa3 | exact ob3 | exact oa4 | exact ob4 | exact oa5 | exact ob5 | exact oa6 | exact ob6 | exact oa7 | exact ob7)
  k_with "odd" => (first | exact oa1 ob7 | exact oa2 ob7 | exact oa3 ob7 | exact oa4 ob7 | exact oa5 ob7 | exact oa6 ob7 | exact oa7 ob7 | exact oa1 (ob7 ob7) | exact oa2 (ob7 ob7) | exact oa3 (ob7 ob7) | exact oa4 (ob7 ob7) | exact oa5 (ob7 ob7) | exact oa6 (ob7 ob7) | exact oa7 (ob7 ob7) | exact ob1 ob7 | exact ob2 ob7 | exact ob3 ob7 | exact ob4 ob7 | exact ob5 ob7 | exact ob6 ob7 | exact ob7 ob7)
  k_with "oin" => (first | decide | exact oI1 | exact oI3 | exact oI2 (by k_extra "oas"))
  k_with "om" => (with_reducible first | (first | assumption | ((fail_if_success fail_if_success refine oXn ?_); k_extra "one") | ((fail_if_success fail_if_success refine oXl ?_); k_extra "ol1") | ((fail_if_success fail_if_success refine oXe ?_); k_extra "oe1") | k_extra "oin") | fail)
  k_with "S_fit" => (first | omega | ((simp only [S_len, List.length_append, List.length_cons, List.length_nil, List.length_take, List.length_drop, dots, PySem.sizeLine_eq]); omega))
  k_with "call builtin:len" => (((with_reducible show wpAny _ _ (call (Value.builtin "len") [Value.str (S _) _]) _ _ _); refine r_len (by walk_at "S_fit") ?_))
  k_with "call builtin:str.startswith" => (((with_reducible show wpAny _ _ (call (Value.builtin "str.startswith") [Value.str (S _) _, Value.str (S _) _]) _ _ _); refine r_starts ?_))
  k_with "call builtin:str.endswith" => (((with_reducible show wpAny _ _ (call (Value.builtin "str.endswith") [Value.str (S _) _, Value.str (S _) _]) _ _ _); refine r_ends ?_))
  k_with "truthy str" => (((with_reducible show wpAny _ _ (truthy (Value.str (S _) _)) _ _ _); refine r_truthy (by walk_at "S_fit") ?_))
  k_with "exec For Name Name cons nil" => ((k_here; (rename Fr _ _ _ _ => Z6Xa); (with_unfolding_all refine' For_invVF Z6Xa ?Q6Xa ?Q6Xb ?_; (case Q6Xa => exact rfl); (case Q6Xb => exact rfl); k_whole)))
  k_with "pyIter ref" => (((with_reducible show wpAny _ _ (pyIter (Value.ref _)) (fun it s₂ => LoopAtV _ _ _ _ _ _ _ _ _ it s₂) _ _); k_listUnr))
  k_with "S_enter" => ((refine' code_defG (news := []) ?Q8Xa ?Q8Xb ?Q8Xc ?Q8Xd ?Q8Xe ?Q8Xf ?Q8Xg ?Q8Xh ?Q8Xi ?Q8Xj ?Q8Xk ?Q8Xl ?Q8Xm ?_ ?Q8Xn ?Q8Xo ?Q8Xp ?Q8Xq; (case Q8Xf => exact rfl); (case Q8Xg => exact rfl); (case Q8Xh => assumption); (case Q8Xa => k_asm); (case Q8Xb => k_asm); (case Q8Xc => k_asm); (case Q8Xd => exact News.nil); (case Q8Xe => k_asm); (case Q8Xi => k_is); (case Q8Xj => k_is); (case Q8Xk => ktr_room); (case Q8Xl => exact BindsTo.of_eq rfl); (case Q8Xq => decide); (case Q8Xm => exact locs rfl); (case Q8Xn => exact rfl); (case Q8Xo => exact rfl); (case Q8Xp => exact rfl); k_whole; intro Z8Xh Z8Xd Z8Xi Z8Xc Z8Xb Z8Xe Z8Xa Z8Xg Z8Xf Z8Xj; (try dsimp only [List.map_nil] at Z8Xj); (try dsimp only); (try k_lift Z8Xa); (try k_fold)))
  k_with "S_look" => (first | exact rfl | assumption | exact (if_pos rfl) | (refine (if_neg (by decide)).trans ?_; walk_at "S_look"))
  k_with "eval Name" => ((k_here; k_dflt (refine' nameX_L ?QaXa ?QaXb ?_ ?QaXc ?QaXd; (case QaXa => k_asm); (case QaXc => rfl); (case QaXd => rfl); (case QaXb => walk_at "S_look"); k_whole)))
  k_with "S_lit" => (first | (with_reducible exact lit_dots) | (with_reducible rfl))
  k_with "S_nn" => (first | omega | ((simp only [List.length_append, List.length_cons, List.length_nil, List.length_take, List.length_drop, dots] at *); omega))
  k_with "binaryOp Add str str" => (((with_reducible show wpAny _ _ (binaryOp _ (Value.str _ _) (Value.str _ _)) _ _ _); k_dflt (refine r_add (by walk_at "S_lit") (by walk_at "S_lit") (by walk_at "S_fit") ?_); intro _ _))
  k_with "subscriptTail Name Slice str ref" => (((with_reducible show wpAny _ _ (subscriptTail _ (Expr.Slice none (some _) none _) (Value.str (S _) _) _) _ _ _); (with_reducible rename Fr _ _ _ _ => ZeXa); (with_reducible rename News _ _ _ _ => ZeXb); (refine r_sliceTo (s := ⟨_, _, _, _, _⟩) ZeXa ZeXb (by walk_at "S_nn") (by walk_at "S_fit") ?_); intro _ _ _ _ _))
  k_with "subscriptTail Name Slice str ref" => (((with_reducible show wpAny _ _ (subscriptTail _ (Expr.Slice (some _) none none _) (Value.str (S _) _) _) _ _ _); (with_reducible rename Fr _ _ _ _ => ZfXa); (with_reducible rename News _ _ _ _ => ZfXb); (refine r_sliceFrom (s := ⟨_, _, _, _, _⟩) ZfXa ZfXb (by walk_at "S_nn") (by walk_at "S_fit") ?_); intro _ _ _ _ _))
  k_with "exec For Name Call cons nil" => ((k_here; (rename Fr _ _ _ _ => ZgXa); (with_unfolding_all refine' For_invVF ZgXa ?QgXa ?QgXb ?_; (case QgXa => exact rfl); (case QgXb => exact rfl); k_whole)))
  k_with "S_use" => ((refine' pcon_use ?QhXa ?QhXb ?QhXc ?QhXd ?QhXe ?QhXf ?QhXg ?QhXh ?_; (case QhXb => k_asm); (case QhXc => k_asm); (case QhXd => k_asm); (case QhXe => k_asm); (case QhXa => walk_at "S_con"); (case QhXf => first | exact rfl | assumption); (case QhXg => ktr_room); (case QhXh => ktr_units)))
  k_with "call ref" => ((k_here; k_dflt (walk_at "S_use"); intro ZiXf ZiXd ZiXe ZiXb; (have ZiXa := Fr.keeps (by k_asm) ZiXb); (have ZiXc := News.grown (by k_asm) ZiXb); walk_at "S_back" <;> ((try dsimp only); (try k_fold))))
  k_with "pyIter ref" => (k_extra "S_loop")
  k_with "S_bool" => ((intro ZkXa; (rcases bool_or ZkXa with ⟨R8, R7⟩ | ⟨R8, R7⟩) <;> subst R7))
  k_with "call builtin:list.append" => ((k_here; (with_reducible show wpAny _ _ (call (Value.builtin _) [Value.ref _, _]) _ _ _); k_dflt (refine' append_K ?QlXa ?QlXb ?QlXc ?_ ?QlXd; (case QlXa => k_asm); (case QlXb => k_asm); (case QlXc => k_upd); (case QlXd => exact size_ok (k := 100000) (by omega) (by decide)); k_whole); intro ZlXc ZlXa ZlXb; (try k_sweep)))
  k_with "m_k_room" => (ktr_room)
  k_with "m_k_units" => (ktr_units)
  k_with "S_enterM" => ((refine' code_defG ?QoXa ?QoXb ?QoXc ?QoXd ?QoXe ?QoXf ?QoXg ?QoXh ?QoXi ?QoXj ?QoXk ?QoXl ?QoXm ?_ ?QoXn ?QoXo ?QoXp ?QoXq; (case QoXf => exact rfl); (case QoXg => exact rfl); (case QoXh => assumption); (case QoXa => k_asm); (case QoXb => k_asm); (case QoXc => k_asm); (case QoXd => k_asm); (case QoXe => k_asm); (case QoXi => k_is); (case QoXj => k_is); (case QoXk => ktr_room); (case QoXl => exact BindsTo.of_eq rfl); (case QoXq => decide); (case QoXm => exact locs rfl); (case QoXn => exact rfl); (case QoXo => exact rfl); (case QoXp => exact rfl); k_whole; intro ZoXh ZoXd ZoXi ZoXc ZoXb ZoXe ZoXa ZoXg ZoXf ZoXj; (try dsimp only [List.map_nil, List.map_cons] at ZoXj); (try dsimp only); (try k_lift ZoXa); (try k_fold)))
  k_with "callWith" => (((with_reducible show wpAny _ _ (callWith _ (Prod.fst _) (Prod.snd _) _ _) _ _ _); dsimp only))
  k_with "S_int" => (first | omega | decide | ((simp only [List.length_cons, List.length_nil, decide_eq_true_eq, decide_eq_false_iff_not, beq_iff_eq, beq_eq_false_iff_ne, ne_eq, Int.not_lt, Int.not_le] at *); omega))
  k_with "binaryOp FloorDiv int int" => (((with_reducible show wpAny _ _ (binaryOp _ (Value.int _ _) (Value.int _ _)) _ _ _); k_dflt (refine r_fdiv (by walk_at "S_int") (by walk_at "S_int") ?_); intro _ _))
  k_with "binaryOp Mod int int" => (((with_reducible show wpAny _ _ (binaryOp _ (Value.int _ _) (Value.int _ _)) _ _ _); k_dflt (refine r_fmod (by walk_at "S_int") ?_); intro _ _))
  k_with "S_item" => (((with_reducible show wpAny _ _ (subscriptTail _ _ (Value.str (S _) _) (Value.int _ _)) _ _ _); k_dflt (refine r_item (by walk_at "S_int") (by walk_at "S_int") (by walk_at "S_fit") ?_); intro _ _))
  k_with "subscriptTail Name BinOp str int" => (walk_at "S_item")
  k_with "subscriptTail Name Constant str int" => (walk_at "S_item")
  k_with "subscriptTail Name Name str int" => (walk_at "S_item")
  k_with "S_lit" => (first | (with_reducible exact lit_dots) | (with_reducible exact lit_empty) | (with_reducible exact lit34) | (with_reducible exact lit9234) | (with_reducible exact lit92) | (with_reducible exact lit10) | (with_reducible exact lit38) | (with_reducible exact lit59) | (with_reducible rfl))
  k_with "call builtin:str.replace" => (((with_reducible show wpAny _ _ (call (Value.builtin _) [Value.str (S _) _, Value.str _ _, Value.str _ _]) _ _ _); k_dflt (refine r_replace (by walk_at "S_lit") (by walk_at "S_lit") (by decide) (Nat.succ_ne_zero _) (Nat.succ_ne_zero _) (Nat.ne_of_lt (Nat.lt_succ_self _)) (by decide) (by walk_at "S_nn") ?_); intro _ _))
  k_with "call builtin:str.join" => ((k_here; (with_reducible show wpAny _ _ (call (Value.builtin _) [Value.str _ _, Value.ref _]) _ _ _); k_dflt (refine r_join (by walk_at "S_lit") (by walk_at "S_isl") (by walk_at "S_strs") (by walk_at "S_sum") ?_); intro _ _))
  k_with "S_isl" => (first | assumption | exact ⟨LCg.lst _, News.get (by k_asm) (by k_mem), rfl, _, rfl⟩ | is_list)
  k_with "S_strs" => (first | exact StrsAre.nil | assumption | (exact CharsAre.strs (by assumption)))
  k_with "binaryOp Mult str int" => (((with_reducible show wpAny _ _ (binaryOp _ (Value.str (S _) _) (Value.int _ _)) _ _ _); k_dflt (refine r_mul (by walk_at "S_int") (by walk_at "S_int") (by walk_at "S_nn") ?_); intro _ _))
  k_with "S_enterC" => ((refine' code_defCG ?Q13Xa ?Q13Xb ?Q13Xc ?Q13Xd ?Q13Xe ?Q13Xf ?Q13Xg ?Q13Xh ?Q13Xi ?Q13Xj ?Q13Xk ?Q13Xl ?Q13Xm ?Q13Xn ?_ ?Q13Xo ?Q13Xp ?Q13Xq; (case Q13Xf => exact rfl); (case Q13Xg => exact rfl); (case Q13Xh => assumption); (case Q13Xa => k_asm); (case Q13Xb => k_asm); (case Q13Xc => k_asm); (case Q13Xd => k_asm); (case Q13Xe => k_asm); (case Q13Xi => k_is); (case Q13Xj => k_is); (case Q13Xk => ktr_room); (case Q13Xl => exact BindsTo.of_eq rfl); (case Q13Xm => rfl); (case Q13Xn => decide); (case Q13Xo => exact rfl); (case Q13Xp => exact rfl); (case Q13Xq => exact rfl); k_whole; intro Z13Xj Z13Xd Z13Xk Z13Xo Z13Xi Z13Xc Z13Xb Z13Xe Z13Xh Z13Xa Z13Xg Z13Xf Z13Xm Z13Xl Z13Xn; (try dsimp only [List.map_nil, List.map_cons] at Z13Xl); (try k_lt Z13Xm); k_cells Z13Xh; (try simp only [List.cons_append, List.nil_append] at Z13Xe); (try dsimp only); (try k_lift Z13Xa); (try k_fold)))
  k_with "S_lcs" => ((k_here; k_dflt (refine ListComp_S (_F₀ := by k_asm) (by rfl) (by decide) (by rfl) (by decide) (by rfl) ?_)))
  k_with "S_lit" => (first | (with_reducible exact lit_dots) | (with_reducible exact lit_empty) | (with_reducible exact lit34) | (with_reducible exact lit9234) | (with_reducible exact lit92) | (with_reducible exact lit10) | (with_reducible exact lit38) | (with_reducible exact lit59) | (with_reducible exact lit60) | (with_reducible exact lit62) | (with_reducible exact lit13) | (with_reducible exact lit9) | (with_reducible exact litamp) | (with_reducible exact litlt) | (with_reducible exact litgt) | (with_reducible exact litquot) | (with_reducible rfl))
  k_with "S_sum" => (assumption)
  trivial
theorem con_ell {w : World} {p loose mean mg mb} (a b t : List Nat) (tw tg : Tok) (ha : a.length ≤ 1000) (hb : b.length ≤ 1000) (ht : t.length ≤ 1000) (ha1 : 46 ∉ a) (hb1 : 46 ∉ b) :
    PCon 2 Challenge.pw_sc0056_01 w (hd.heap_1 w.params) p loose mean mg mb 21 [.str (S (a ++ dots ++ b)) tw, .str (S t) tg] (fun _ _ v => v = .bool (ellB a b t)) := by
  dsimp only [PCon]
  intros
  rename_i hret
  refine wpAny_call ?_
  k_dflt (walk_at "S_enter")
  (try clear sfl)
  k_with "call builtin:str.split" => (refine r_split2 (by k_asm) (by k_asm) (by decide +kernel) (by assumption) (by assumption) (by omega) ?_; intro D' t1' t2' h' k' F' N' l1; (try k_lt l1))
  k_with "compareOp NotIn str str" => (refine r_notin_dots (by decide +kernel) ?_)
  k_with "call builtin:str.find" => (refine r_find_none (by assumption) (by omega) (by omega) (by omega) ?_; intro hb0')
  k_steps
  all_goals (refine hret _ _ _ (pc_kept (by assumption) (by assumption)) ?_)
  all_goals first
    | exact ell_f1 (by assumption)
    | exact ell_f2 (by assumption)
    | exact ell_f3 (by omega)
    | exact ell_t (by first | assumption | exact pre_nil (by assumption)) (by first | assumption | exact suf_nil (by assumption)) (by omega)
theorem con_ell0 {w : World} {p loose mean mg mb} (a t : List Nat) (tw tg : Tok) (ha : a.length ≤ 1000) (ht : t.length ≤ 1000) (ha1 : 46 ∉ a) :
    PCon 2 Challenge.pw_sc0056_01 w (hd.heap_1 w.params) p loose mean mg mb 21 [.str (S (a ++ dots)) tw, .str (S t) tg] (fun _ _ v => v = .bool (ellB a [] t)) := by
  have := con_ell (w := w) (p := p) (loose := loose) (mean := mean) (mg := mg) (mb := mb) a [] t tw tg ha (by simp) ht ha1 (by simp)
  rwa [List.append_nil] at this
theorem con_ell1 {w : World} {p loose mean mg mb} (b t : List Nat) (tw tg : Tok) (hb : b.length ≤ 1000) (ht : t.length ≤ 1000) (hb1 : 46 ∉ b) :
    PCon 2 Challenge.pw_sc0056_01 w (hd.heap_1 w.params) p loose mean mg mb 21 [.str (S (dots ++ b)) tw, .str (S t) tg] (fun _ _ v => v = .bool (ellB [] b t)) := by
  have := con_ell (w := w) (p := p) (loose := loose) (mean := mean) (mg := mg) (mb := mb) [] b t tw tg (by simp) hb ht (by simp) hb1
  rwa [List.nil_append] at this
end
section
theorem con_gtp {w : World} {p loose mean mg mb} (r : RP) (ok : r.Ok) (ln : Int) (tl : Tok) (kp : Nat) (lf : List Value) (kl : Nat) (x : List Nat) (t : Tok) :
    MCon 111 107 10 Challenge.pw_sc0056_01 w (hd.heap_1 w.params) p loose mean mg mb 49 [.ref r.aR] (rdr 154 w.params r ln tl [.str (S x) t] kp lf kl)
      (fun v post => v = .str (S x) t ∧ post = rdr 154 w.params r ln tl [] (kp + 1) lf kl) := by
  obtain ⟨aP, aR, dR, aF, cF, aP2, aS, dS, aL, aC, t1, t2, t3, t4, t5, s0, s1, s2, s3, s4, s5, s6, oc, oC, vs, qt, q, pm, ctv⟩ := r
  obtain ⟨hd1, hd2, hd3, o1, o2, o3, o4, o5, o6, o7, o8, o9⟩ := ok
  dsimp only at hd1 hd2 hd3 o1 o2 o3 o4 o5 o6 o7 o8 o9
  dsimp only [MCon, rdr]
  intros
  rename_i hret
  k_dflt (walk_at "S_enterM")
  (try clear sfl)
  k_steps
  all_goals first
    | exact hret _ _ _ _ (by assumption) (by assumption) (mc_kept (by assumption) (by assumption)) ⟨rfl, rfl⟩
    | trace_state
theorem con_push {w : World} {p loose mean mg mb} (r : RP) (ok : r.Ok) (ln : Int) (tl : Tok) (kp : Nat) (lf : List Value) (kl : Nat) (x : List Nat) (t : Tok) :
    MCon 111 107 10 Challenge.pw_sc0056_01 w (hd.heap_1 w.params) p loose mean mg mb 56 [.ref r.aR, .str (S x) t] (rdr 154 w.params r ln tl [] kp lf kl)
      (fun v post => v = .none ∧ post = rdr 154 w.params r ln tl [.str (S x) t] (kp + 1) lf kl) := by
  obtain ⟨aP, aR, dR, aF, cF, aP2, aS, dS, aL, aC, t1, t2, t3, t4, t5, s0, s1, s2, s3, s4, s5, s6, oc, oC, vs, qt, q, pm, ctv⟩ := r
  obtain ⟨hd1, hd2, hd3, o1, o2, o3, o4, o5, o6, o7, o8, o9⟩ := ok
  dsimp only at hd1 hd2 hd3 o1 o2 o3 o4 o5 o6 o7 o8 o9
  dsimp only [MCon, rdr]
  intros
  rename_i hret
  k_dflt (walk_at "S_enterM")
  (try clear sfl)
  k_steps
  all_goals first
    | exact hret _ _ _ _ (by assumption) (by assumption) (mc_kept (by assumption) (by assumption)) ⟨rfl, rfl⟩
    | trace_state
end
section
local macro_rules | `(tactic| walk_at "zz0") => `(tactic| fail)
local macro_rules | `(tactic| walk_at "zz1") => `(tactic| fail)
local macro_rules | `(tactic| walk_at "zz2") => `(tactic| fail)
theorem con_piece {w : World} {p loose mean mg mb} (a b c : Nat) (t tf : Tok) (f : Int) (h0 : 0 ≤ f) (h12 : f ≤ 12) :
    PCon 4 Challenge.pw_sc0056_01 w (hd.heap_1 w.params) p loose mean mg mb 119 [.str (S [a, b, c]) t, .int f tf] (fun _ _ v => ∃ t, v = .str (S (pieceL [a, b, c] f)) t) := by
  dsimp only [PCon]
  intros
  rename_i hret
  refine wpAny_call ?_
  k_dflt (walk_at "S_enter")
  (try clear sfl)
  k_steps
  · refine hret _ _ _ (pc_kept (by assumption) (by assumption)) ⟨_, congrArg (Value.str · _) (lit_empty.trans (congrArg S ?_))⟩
    rw [pieceL, if_pos (by walk_at "S_int")]
  · refine hret _ _ _ (pc_kept (by assumption) (by assumption)) ⟨_, congrArg (Value.str · _) (congrArg S ?_)⟩
    rw [pieceL, if_neg (by walk_at "S_int"), if_pos (by walk_at "S_int")]
  · refine hret _ _ _ (pc_kept (by assumption) (by assumption)) ⟨_, congrArg (Value.str · _) (congrArg S ?_)⟩
    rw [pieceL, if_neg (by walk_at "S_int"), if_neg (by walk_at "S_int")]
    rfl
end
section
theorem con_grown {w : World} {p loose mean mg mb} (H : Addr) (k : Nat) (x y z : List Nat) (t1 t2 t3 tf : Tok) (f : Int) (h0 : 0 ≤ f) (hx : x.length ≤ 2) (hy : y.length ≤ 2) (hz : z.length ≤ 2) :
    MCon 111 107 4 Challenge.pw_sc0056_01 w (hd.heap_1 w.params) p loose mean mg mb 131 [.ref H, .int f tf] [(H, listOf [.str (S x) t1, .str (S y) t2, .str (S z) t3].toArray k)]
      (fun v post => (∃ t, v = .str (S (grownL x y z f)) t) ∧ post = [(H, listOf [.str (S x) t1, .str (S y) t2, .str (S z) t3].toArray k)]) := by
  have hL1 : (rpt (x ++ y) (1 + f % 2)).length ≤ 2 * 4 := rpt_le (by omega) (by rw [List.length_append]; omega)
  have hL2 : (rpt (rpt (x ++ y) (1 + f % 2) ++ x ++ z) (1 + f / 2 % 2)).length ≤ 2 * 12 := rpt_le (by omega) (by rw [List.length_append, List.length_append]; omega)
  dsimp only [MCon]
  intros
  rename_i hret
  k_dflt (walk_at "S_enterM")
  (try clear sfl)
  k_steps
  rename News _ _ _ _ => N9
  exact hret _ [(H, listOf [.str (S x) t1, .str (S y) t2, .str (S z) t3].toArray k)] _ _ (by assumption) (fun q hq => by rw [List.mem_singleton.mp hq]; exact N9 _ (by k_mem)) (mc_kept (by assumption) (by assumption)) ⟨⟨_, rfl⟩, rfl⟩
end
section
local macro_rules | `(tactic| walk_at "zz0") => `(tactic| fail)
local macro_rules | `(tactic| walk_at "zz1") => `(tactic| fail)
local macro_rules | `(tactic| walk_at "zz2") => `(tactic| fail)
example : True := by
  k_with_none
  w_top off
  k_with "olt" => (first | assumption | ((fail_if_success refine oM ?_); refine oL ?_; k_extra "ole") | k_extra "olh")
  k_with "olh" => (refine oH (by assumption) (by k_extra "ole"))
  k_with "ole" => (first | exact Nat.le_refl _ | assumption | exact oB | ((first | refine oA ?_ | refine oA2 ?_ | refine oA3 ?_); k_extra "ocl") | (refine oS ?_; k_extra "ole") | (refine Nat.le_of_lt ?_; (first | assumption | k_extra "olh")) | exact oE)
  k_with "olt2" => (first | k_extra "oas" | ((fail_if_success refine oM ?_); refine oL ?_; k_extra "ole2") | k_extra "olh2")
  k_with "olh2" => (refine oH (by k_extra "oas") (by k_extra "ole2"))
  k_with "ole2" => (first | exact Nat.le_refl _ | k_extra "oas" | exact oB | ((first | refine oA ?_ | refine oA2 ?_ | refine oA3 ?_); k_extra "ocl") | (refine oS ?_; k_extra "ole2") | (refine Nat.le_of_lt ?_; (first | k_extra "oas" | k_extra "olh2")) | exact oE)
  k_with "opu" => (first | exact oB | exact Nat.le_refl _ | (refine oS ?_; k_extra "opu"))
  k_with "olt0" => (refine oL ?_; k_extra "opu")
  k_with "one" => (first | (refine Nat.ne_of_gt ?_; (fail_if_success refine oM ?_); k_extra "olt0") | (refine Nat.ne_of_lt ?_; (fail_if_success refine oM ?_); k_extra "olt0") | exact Ne.symm (by assumption) | (refine Nat.ne_of_gt ?_; (fail_if_success refine oM ?_); k_extra "oas") | (refine Nat.ne_of_lt ?_; (fail_if_success refine oM ?_); k_extra "oas") | (refine Nat.ne_of_gt ?_; (fail_if_success refine oM ?_); k_extra "odd") | (refine Nat.ne_of_lt ?_; (fail_if_success refine oM ?_); k_extra "odd") | (refine Nat.ne_of_gt ?_; (fail_if_success refine oM ?_); k_extra "olt") | (refine Nat.ne_of_lt ?_; (fail_if_success refine oM ?_); k_extra "olt") | (refine Nat.ne_of_gt ?_; (fail_if_success refine oM ?_); k_extra "olt2") | (refine Nat.ne_of_lt ?_; (fail_if_success refine oM ?_); k_extra "olt2") | decide)
  k_with "ol1" => (first | ((fail_if_success refine oM ?_); first | k_extra "oas" | k_extra "olt0" | k_extra "odd" | k_extra "olt" | k_extra "olt2") | k_extra "ocl" | exact oT0 | exact oT5)
  k_with "oe1" => (first | ((fail_if_success refine oN ?_); first | k_extra "oas" | k_extra "opu" | k_extra "ole" | k_extra "ole2" | exact oE (by k_extra "oas")) | k_extra "ocl" | k_extra "olit" | k_extra "oas")
  k_with "olit" => (first | exact oT4 | exact oP | exact oP2 | exact oT1 | exact oT2 | exact oT3 | exact oQ5 | exact oQ1 | exact oQ2 | exact oQ3 | exact oQ4 | exact oQ6 | exact oD)
  k_with "ocl" => (with_unfolding_all exact Nat.le_of_ble_eq_true rfl)
  k_with "oas" => (first | assumption | exact oa1 | exact ob1 | exact oa2 | exact ob2 | exact oa3 | exact ob3 | exact oa4 | exact ob4 | exact oa5 | exact ob5 | exact oa6 | exact ob6 | exact oa7 | exact ob7)
  k_with "odd" => (first | exact oa1 ob7 | exact oa2 ob7 | exact oa3 ob7 | exact oa4 ob7 | exact oa5 ob7 | exact oa6 ob7 | exact oa7 ob7 | exact oa1 (ob7 ob7) | exact oa2 (ob7 ob7) | exact oa3 (ob7 ob7) | exact oa4 (ob7 ob7) | exact oa5 (ob7 ob7) | exact oa6 (ob7 ob7) | exact oa7 (ob7 ob7) | exact ob1 ob7 | exact ob2 ob7 | exact ob3 ob7 | exact ob4 ob7 | exact ob5 ob7 | exact ob6 ob7 | exact ob7 ob7)
  k_with "oin" => (first | decide | exact oI1 | exact oI3 | exact oI2 (by k_extra "oas"))
  k_with "om" => (with_reducible first | (first | assumption | ((fail_if_success fail_if_success refine oXn ?_); k_extra "one") | ((fail_if_success fail_if_success refine oXl ?_); k_extra "ol1") | ((fail_if_success fail_if_success refine oXe ?_); k_extra "oe1") | k_extra "oin") | fail)
  k_with "S_fit" => (first | omega | ((simp only [S_len, List.length_append, List.length_cons, List.length_nil, List.length_take, List.length_drop, dots, PySem.sizeLine_eq]); omega))
  k_with "call builtin:len" => (((with_reducible show wpAny _ _ (call (Value.builtin "len") [Value.str (S _) _]) _ _ _); refine r_len (by walk_at "S_fit") ?_))
  k_with "call builtin:str.startswith" => (((with_reducible show wpAny _ _ (call (Value.builtin "str.startswith") [Value.str (S _) _, Value.str (S _) _]) _ _ _); refine r_starts ?_))
  k_with "call builtin:str.endswith" => (((with_reducible show wpAny _ _ (call (Value.builtin "str.endswith") [Value.str (S _) _, Value.str (S _) _]) _ _ _); refine r_ends ?_))
  k_with "truthy str" => (((with_reducible show wpAny _ _ (truthy (Value.str (S _) _)) _ _ _); refine r_truthy (by walk_at "S_fit") ?_))
  k_with "exec For Name Name cons nil" => ((k_here; (rename Fr _ _ _ _ => Z6Xa); (with_unfolding_all refine' For_invVF Z6Xa ?Q6Xa ?Q6Xb ?_; (case Q6Xa => exact rfl); (case Q6Xb => exact rfl); k_whole)))
  k_with "pyIter ref" => (((with_reducible show wpAny _ _ (pyIter (Value.ref _)) (fun it s₂ => LoopAtV _ _ _ _ _ _ _ _ _ it s₂) _ _); k_listUnr))
  k_with "S_enter" => ((refine' code_defG (news := []) ?Q8Xa ?Q8Xb ?Q8Xc ?Q8Xd ?Q8Xe ?Q8Xf ?Q8Xg ?Q8Xh ?Q8Xi ?Q8Xj ?Q8Xk ?Q8Xl ?Q8Xm ?_ ?Q8Xn ?Q8Xo ?Q8Xp ?Q8Xq; (case Q8Xf => exact rfl); (case Q8Xg => exact rfl); (case Q8Xh => assumption); (case Q8Xa => k_asm); (case Q8Xb => k_asm); (case Q8Xc => k_asm); (case Q8Xd => exact News.nil); (case Q8Xe => k_asm); (case Q8Xi => k_is); (case Q8Xj => k_is); (case Q8Xk => ktr_room); (case Q8Xl => exact BindsTo.of_eq rfl); (case Q8Xq => decide); (case Q8Xm => exact locs rfl); (case Q8Xn => exact rfl); (case Q8Xo => exact rfl); (case Q8Xp => exact rfl); k_whole; intro Z8Xh Z8Xd Z8Xi Z8Xc Z8Xb Z8Xe Z8Xa Z8Xg Z8Xf Z8Xj; (try dsimp only [List.map_nil] at Z8Xj); (try dsimp only); (try k_lift Z8Xa); (try k_fold)))
  k_with "S_look" => (first | exact rfl | assumption | exact (if_pos rfl) | (refine (if_neg (by decide)).trans ?_; walk_at "S_look"))
  k_with "eval Name" => ((k_here; k_dflt (refine' nameX_L ?QaXa ?QaXb ?_ ?QaXc ?QaXd; (case QaXa => k_asm); (case QaXc => rfl); (case QaXd => rfl); (case QaXb => walk_at "S_look"); k_whole)))
  k_with "S_lit" => (first | (with_reducible exact lit_dots) | (with_reducible rfl))
  k_with "S_nn" => (first | omega | ((simp only [List.length_append, List.length_cons, List.length_nil, List.length_take, List.length_drop, dots] at *); omega))
  k_with "binaryOp Add str str" => (((with_reducible show wpAny _ _ (binaryOp _ (Value.str _ _) (Value.str _ _)) _ _ _); k_dflt (refine r_add (by walk_at "S_lit") (by walk_at "S_lit") (by walk_at "S_fit") ?_); intro _ _))
  k_with "subscriptTail Name Slice str ref" => (((with_reducible show wpAny _ _ (subscriptTail _ (Expr.Slice none (some _) none _) (Value.str (S _) _) _) _ _ _); (with_reducible rename Fr _ _ _ _ => ZeXa); (with_reducible rename News _ _ _ _ => ZeXb); (refine r_sliceTo (s := ⟨_, _, _, _, _⟩) ZeXa ZeXb (by walk_at "S_nn") (by walk_at "S_fit") ?_); intro _ _ _ _ _))
  k_with "subscriptTail Name Slice str ref" => (((with_reducible show wpAny _ _ (subscriptTail _ (Expr.Slice (some _) none none _) (Value.str (S _) _) _) _ _ _); (with_reducible rename Fr _ _ _ _ => ZfXa); (with_reducible rename News _ _ _ _ => ZfXb); (refine r_sliceFrom (s := ⟨_, _, _, _, _⟩) ZfXa ZfXb (by walk_at "S_nn") (by walk_at "S_fit") ?_); intro _ _ _ _ _))
  k_with "exec For Name Call cons nil" => ((k_here; (rename Fr _ _ _ _ => ZgXa); (with_unfolding_all refine' For_invVF ZgXa ?QgXa ?QgXb ?_; (case QgXa => exact rfl); (case QgXb => exact rfl); k_whole)))
  k_with "S_use" => ((refine' pcon_use ?QhXa ?QhXb ?QhXc ?QhXd ?QhXe ?QhXf ?QhXg ?QhXh ?_; (case QhXb => k_asm); (case QhXc => k_asm); (case QhXd => k_asm); (case QhXe => k_asm); (case QhXa => walk_at "S_con"); (case QhXf => first | exact rfl | assumption); (case QhXg => ktr_room); (case QhXh => ktr_units)))
  k_with "call ref" => ((k_here; k_dflt (walk_at "S_use"); intro ZiXf ZiXd ZiXe ZiXb; (have ZiXa := Fr.keeps (by k_asm) ZiXb); (have ZiXc := News.grown (by k_asm) ZiXb); walk_at "S_back" <;> ((try dsimp only); (try k_fold))))
  k_with "pyIter ref" => (k_extra "S_loop")
  k_with "S_bool" => ((intro ZkXa; (rcases bool_or ZkXa with ⟨R8, R7⟩ | ⟨R8, R7⟩) <;> subst R7))
  k_with "call builtin:list.append" => ((k_here; (with_reducible show wpAny _ _ (call (Value.builtin _) [Value.ref _, _]) _ _ _); k_dflt (refine' append_K ?QlXa ?QlXb ?QlXc ?_ ?QlXd; (case QlXa => k_asm); (case QlXb => k_asm); (case QlXc => k_upd); (case QlXd => exact size_ok (k := 100000) (by omega) (by decide)); k_whole); intro ZlXc ZlXa ZlXb; (try k_sweep)))
  k_with "m_k_room" => (ktr_room)
  k_with "m_k_units" => (ktr_units)
  k_with "S_enterM" => ((refine' code_defG ?QoXa ?QoXb ?QoXc ?QoXd ?QoXe ?QoXf ?QoXg ?QoXh ?QoXi ?QoXj ?QoXk ?QoXl ?QoXm ?_ ?QoXn ?QoXo ?QoXp ?QoXq; (case QoXf => exact rfl); (case QoXg => exact rfl); (case QoXh => assumption); (case QoXa => k_asm); (case QoXb => k_asm); (case QoXc => k_asm); (case QoXd => k_asm); (case QoXe => k_asm); (case QoXi => k_is); (case QoXj => k_is); (case QoXk => ktr_room); (case QoXl => exact BindsTo.of_eq rfl); (case QoXq => decide); (case QoXm => exact locs rfl); (case QoXn => exact rfl); (case QoXo => exact rfl); (case QoXp => exact rfl); k_whole; intro ZoXh ZoXd ZoXi ZoXc ZoXb ZoXe ZoXa ZoXg ZoXf ZoXj; (try dsimp only [List.map_nil, List.map_cons] at ZoXj); (try dsimp only); (try k_lift ZoXa); (try k_fold)))
  k_with "callWith" => (((with_reducible show wpAny _ _ (callWith _ (Prod.fst _) (Prod.snd _) _ _) _ _ _); dsimp only))
  k_with "S_int" => (first | omega | decide | ((simp only [List.length_cons, List.length_nil, decide_eq_true_eq, decide_eq_false_iff_not, beq_iff_eq, beq_eq_false_iff_ne, ne_eq, Int.not_lt, Int.not_le] at *); omega))
  k_with "binaryOp FloorDiv int int" => (((with_reducible show wpAny _ _ (binaryOp _ (Value.int _ _) (Value.int _ _)) _ _ _); k_dflt (refine r_fdiv (by walk_at "S_int") (by walk_at "S_int") ?_); intro _ _))
  k_with "binaryOp Mod int int" => (((with_reducible show wpAny _ _ (binaryOp _ (Value.int _ _) (Value.int _ _)) _ _ _); k_dflt (refine r_fmod (by walk_at "S_int") ?_); intro _ _))
  k_with "S_item" => (((with_reducible show wpAny _ _ (subscriptTail _ _ (Value.str (S _) _) (Value.int _ _)) _ _ _); k_dflt (refine r_item (by walk_at "S_int") (by walk_at "S_int") (by walk_at "S_fit") ?_); intro _ _))
  k_with "subscriptTail Name BinOp str int" => (walk_at "S_item")
  k_with "subscriptTail Name Constant str int" => (walk_at "S_item")
  k_with "subscriptTail Name Name str int" => (walk_at "S_item")
  k_with "S_lit" => (first | (with_reducible exact lit_dots) | (with_reducible exact lit_empty) | (with_reducible exact lit34) | (with_reducible exact lit9234) | (with_reducible exact lit92) | (with_reducible exact lit10) | (with_reducible exact lit38) | (with_reducible exact lit59) | (with_reducible rfl))
  k_with "call builtin:str.replace" => (((with_reducible show wpAny _ _ (call (Value.builtin _) [Value.str (S _) _, Value.str _ _, Value.str _ _]) _ _ _); k_dflt (refine r_replace (by walk_at "S_lit") (by walk_at "S_lit") (by decide) (Nat.succ_ne_zero _) (Nat.succ_ne_zero _) (Nat.ne_of_lt (Nat.lt_succ_self _)) (by decide) (by walk_at "S_nn") ?_); intro _ _))
  k_with "call builtin:str.join" => ((k_here; (with_reducible show wpAny _ _ (call (Value.builtin _) [Value.str _ _, Value.ref _]) _ _ _); k_dflt (refine r_join (by walk_at "S_lit") (by walk_at "S_isl") (by walk_at "S_strs") (by walk_at "S_sum") ?_); intro _ _))
  k_with "S_isl" => (first | assumption | exact ⟨LCg.lst _, News.get (by k_asm) (by k_mem), rfl, _, rfl⟩ | is_list)
  k_with "S_strs" => (first | exact StrsAre.nil | assumption | (exact CharsAre.strs (by assumption)))
  k_with "binaryOp Mult str int" => (((with_reducible show wpAny _ _ (binaryOp _ (Value.str (S _) _) (Value.int _ _)) _ _ _); k_dflt (refine r_mul (by walk_at "S_int") (by walk_at "S_int") (by walk_at "S_nn") ?_); intro _ _))
  k_with "S_enterC" => ((refine' code_defCG ?Q13Xa ?Q13Xb ?Q13Xc ?Q13Xd ?Q13Xe ?Q13Xf ?Q13Xg ?Q13Xh ?Q13Xi ?Q13Xj ?Q13Xk ?Q13Xl ?Q13Xm ?Q13Xn ?_ ?Q13Xo ?Q13Xp ?Q13Xq; (case Q13Xf => exact rfl); (case Q13Xg => exact rfl); (case Q13Xh => assumption); (case Q13Xa => k_asm); (case Q13Xb => k_asm); (case Q13Xc => k_asm); (case Q13Xd => k_asm); (case Q13Xe => k_asm); (case Q13Xi => k_is); (case Q13Xj => k_is); (case Q13Xk => ktr_room); (case Q13Xl => exact BindsTo.of_eq rfl); (case Q13Xm => rfl); (case Q13Xn => decide); (case Q13Xo => exact rfl); (case Q13Xp => exact rfl); (case Q13Xq => exact rfl); k_whole; intro Z13Xj Z13Xd Z13Xk Z13Xo Z13Xi Z13Xc Z13Xb Z13Xe Z13Xh Z13Xa Z13Xg Z13Xf Z13Xm Z13Xl Z13Xn; (try dsimp only [List.map_nil, List.map_cons] at Z13Xl); (try k_lt Z13Xm); k_cells Z13Xh; (try simp only [List.cons_append, List.nil_append] at Z13Xe); (try dsimp only); (try k_lift Z13Xa); (try k_fold)))
  k_with "S_lcs" => ((k_here; k_dflt (refine ListComp_S (_F₀ := by k_asm) (by rfl) (by decide) (by rfl) (by decide) (by rfl) ?_)))
  k_with "S_lit" => (first | (with_reducible exact lit_dots) | (with_reducible exact lit_empty) | (with_reducible exact lit34) | (with_reducible exact lit9234) | (with_reducible exact lit92) | (with_reducible exact lit10) | (with_reducible exact lit38) | (with_reducible exact lit59) | (with_reducible exact lit60) | (with_reducible exact lit62) | (with_reducible exact lit13) | (with_reducible exact lit9) | (with_reducible exact litamp) | (with_reducible exact litlt) | (with_reducible exact litgt) | (with_reducible exact litquot) | (with_reducible rfl))
  k_with "S_sum" => (assumption)
  k_with "compareOp NotEq ref ref" => ((k_here; (with_reducible show wpAny _ _ (compareOp CmpOp.NotEq (Value.ref _) (Value.ref _)) _ _ _); k_dflt (refine' r_ne_strs ?Q17Xa ?Q17Xb ?Q17Xc ?Q17Xd ?Q17Xe ?Q17Xf ?Q17Xg ?_; (case Q17Xa => is_list); (case Q17Xb => is_list); (case Q17Xc => walk_at "S_strs"); (case Q17Xd => walk_at "S_strs"); (case Q17Xe => walk_at "S_ok8"); (case Q17Xf => walk_at "S_ok8"); (case Q17Xg => ke_room)); (walk_at "S_ne")))
  k_with "S_strs" => (first | exact StrsAre.nil | assumption | (exact CharsAre.strs (by assumption)))
  k_with "S_ok8" => (first | assumption | (intro Z19Xb Z19Xa; cases Z19Xa) | fail "ok8")
  k_with "S_ne" => (skip)
  k_with "call builtin:list.pop" => ((k_here; (with_reducible show wpAny _ _ (call (Value.builtin _) [Value.ref _]) _ _ _); k_dflt (refine' kr_pop ?Q1bXa ?Q1bXb ?Q1bXc ?Q1bXd ?_; (case Q1bXa => k_asm); (case Q1bXb => k_asm); (case Q1bXc => k_upd); (case Q1bXd => walk_at "S_size")); (intro Z1bXc Z1bXa Z1bXb)))
  k_with "S_size" => (((have Z1cXa := CharsAre.length (by assumption)); simp only [PySem.sizeLine_eq]; omega))
  trivial
theorem ok8_chars {p : List Nat} {c : Nat} (h : (p ++ [c]).all (· < 0x110000) = true) : Ok8 ((p ++ [c]).map fun x => [x]) := by
  intro x hx
  obtain ⟨y, hy, rfl⟩ := List.mem_map.mp hx
  have := List.all_eq_true.mp h y hy
  simpa using this
theorem nl_iff (c : Nat) : (S [c] == PySem.Str.ofString "\n") = decide (c = 10) := by
  have e : PySem.Str.ofString "\n" = S [10] := by rfl
  rw [e, S_beq]
  by_cases h : c = 10 <;> simp [h]
theorem news_tail {h₀ h : Heap} {L : Addr} {p : Addr × Obj} {l : List (Addr × Obj)} (N : News h₀ L h (p :: l)) : News h₀ L h l := fun q hq => N q (List.mem_cons_of_mem _ hq)
theorem con_rc {w : World} {p loose mean mg mb} (r : RP) (ok : r.Ok) (ln : Int) (tl : Tok) (pb : List Value) (kp : Nat) (us : List Value) (kl : Nat) (st : List Nat) (c : Nat) (tc : Tok) (hlf : CharsAre us st) (hl : st.length ≤ 1000)
    (h8 : (st ++ [c]).all (· < 0x110000) = true) :
    MCon 111 107 6 Challenge.pw_sc0056_01 w (hd.heap_1 w.params) p loose mean mg mb 42 [.ref r.aR] (rdr 154 w.params r ln tl pb kp (us ++ [.str (S [c]) tc]) kl)
      (fun v post => v = .str (S [c]) tc ∧ ∃ tl', post = rdr 154 w.params r (ln + if c = 10 then 1 else 0) tl' pb kp us (kl + 1)) := by
  obtain ⟨aP, aR, dR, aF, cF, aP2, aS, dS, aL, aC, t1, t2, t3, t4, t5, s0, s1, s2, s3, s4, s5, s6, oc, oC, vs, qt, q, pm, ctv⟩ := r
  obtain ⟨hd1, hd2, hd3, o1, o2, o3, o4, o5, o6, o7, o8, o9⟩ := ok
  dsimp only at hd1 hd2 hd3 o1 o2 o3 o4 o5 o6 o7 o8 o9
  have hS : StrsAre (us ++ [.str (S [c]) tc]) ((st ++ [c]).map fun x => [x]) := (hlf.append (.cons c tc .nil)).strs
  have h8' := ok8_chars h8
  have hne : (decide (((st ++ [c]).map fun x => [x]) = []) : Bool) = false := by simp
  dsimp only [MCon, rdr, rdr7]
  intros
  rename_i hret
  k_dflt (walk_at "S_enterM")
  (try clear sfl)
  k_steps
  · rename (S [c] == PySem.Str.ofString "\n") = true => hc
    rw [nl_iff] at hc
    have hc := of_decide_eq_true hc
    rw [if_pos hc] at hret
    rename News _ _ _ _ => N9
    have N9 := news_tail N9
    exact hret _ _ _ _ (by assumption) N9 (mc_kept (by assumption) (by assumption)) ⟨rfl, _, rfl⟩
  · rename (S [c] == PySem.Str.ofString "\n") = false => hc
    rw [nl_iff] at hc
    have hc := of_decide_eq_false hc
    rw [if_neg hc, Int.add_zero] at hret
    rename News _ _ _ _ => N9
    have N9 := news_tail N9
    exact hret _ _ _ _ (by assumption) N9 (mc_kept (by assumption) (by assumption)) ⟨rfl, _, rfl⟩
theorem con_rc0 {w : World} {p loose mean mg mb} (r : RP) (ok : r.Ok) (ln : Int) (tl : Tok) (pb : List Value) (kp : Nat) (kl : Nat) :
    MCon 111 107 6 Challenge.pw_sc0056_01 w (hd.heap_1 w.params) p loose mean mg mb 42 [.ref r.aR] (rdr 154 w.params r ln tl pb kp [] kl)
      (fun v post => (∃ t, v = .str (S []) t) ∧ post = rdr 154 w.params r ln tl pb kp [] kl) := by
  obtain ⟨aP, aR, dR, aF, cF, aP2, aS, dS, aL, aC, t1, t2, t3, t4, t5, s0, s1, s2, s3, s4, s5, s6, oc, oC, vs, qt, q, pm, ctv⟩ := r
  obtain ⟨hd1, hd2, hd3, o1, o2, o3, o4, o5, o6, o7, o8, o9⟩ := ok
  dsimp only at hd1 hd2 hd3 o1 o2 o3 o4 o5 o6 o7 o8 o9
  dsimp only [MCon, rdr, rdr7]
  intros
  rename_i hret
  k_dflt (walk_at "S_enterM")
  (try clear sfl)
  k_steps
  
  · rename News _ _ _ _ => N9
    have N9 := news_tail N9
    exact hret _ _ _ _ (by assumption) N9 (mc_kept (by assumption) (by assumption)) ⟨⟨_, congrArg (Value.str · _) lit_empty⟩, rfl⟩
end
section
example : True := by
  k_with_none
  w_top off
  k_with "olt" => (first | assumption | ((fail_if_success refine oM ?_); refine oL ?_; k_extra "ole") | k_extra "olh")
  k_with "olh" => (refine oH (by assumption) (by k_extra "ole"))
  k_with "ole" => (first | exact Nat.le_refl _ | assumption | exact oB | ((first | refine oA ?_ | refine oA2 ?_ | refine oA3 ?_); k_extra "ocl") | (refine oS ?_; k_extra "ole") | (refine Nat.le_of_lt ?_; (first | assumption | k_extra "olh")) | exact oE)
  k_with "olt2" => (first | k_extra "oas" | ((fail_if_success refine oM ?_); refine oL ?_; k_extra "ole2") | k_extra "olh2")
  k_with "olh2" => (refine oH (by k_extra "oas") (by k_extra "ole2"))
  k_with "ole2" => (first | exact Nat.le_refl _ | k_extra "oas" | exact oB | ((first | refine oA ?_ | refine oA2 ?_ | refine oA3 ?_); k_extra "ocl") | (refine oS ?_; k_extra "ole2") | (refine Nat.le_of_lt ?_; (first | k_extra "oas" | k_extra "olh2")) | exact oE)
  k_with "opu" => (first | exact oB | exact Nat.le_refl _ | (refine oS ?_; k_extra "opu"))
  k_with "olt0" => (refine oL ?_; k_extra "opu")
  k_with "one" => (first | (refine Nat.ne_of_gt ?_; (fail_if_success refine oM ?_); k_extra "olt0") | (refine Nat.ne_of_lt ?_; (fail_if_success refine oM ?_); k_extra "olt0") | exact Ne.symm (by assumption) | (refine Nat.ne_of_gt ?_; (fail_if_success refine oM ?_); k_extra "oas") | (refine Nat.ne_of_lt ?_; (fail_if_success refine oM ?_); k_extra "oas") | (refine Nat.ne_of_gt ?_; (fail_if_success refine oM ?_); k_extra "odd") | (refine Nat.ne_of_lt ?_; (fail_if_success refine oM ?_); k_extra "odd") | (refine Nat.ne_of_gt ?_; (fail_if_success refine oM ?_); k_extra "olt") | (refine Nat.ne_of_lt ?_; (fail_if_success refine oM ?_); k_extra "olt") | (refine Nat.ne_of_gt ?_; (fail_if_success refine oM ?_); k_extra "olt2") | (refine Nat.ne_of_lt ?_; (fail_if_success refine oM ?_); k_extra "olt2") | decide)
  k_with "ol1" => (first | ((fail_if_success refine oM ?_); first | k_extra "oas" | k_extra "olt0" | k_extra "odd" | k_extra "olt" | k_extra "olt2") | k_extra "ocl" | exact oT0 | exact oT5)
  k_with "oe1" => (first | ((fail_if_success refine oN ?_); first | k_extra "oas" | k_extra "opu" | k_extra "ole" | k_extra "ole2" | exact oE (by k_extra "oas")) | k_extra "ocl" | k_extra "olit" | k_extra "oas")
  k_with "olit" => (first | exact oT4 | exact oP | exact oP2 | exact oT1 | exact oT2 | exact oT3 | exact oQ5 | exact oQ1 | exact oQ2 | exact oQ3 | exact oQ4 | exact oQ6 | exact oD)
  k_with "ocl" => (with_unfolding_all exact Nat.le_of_ble_eq_true rfl)
  k_with "oas" => (first | assumption | exact oa1 | exact ob1 | exact oa2 | exact ob2 | exact oa3 | exact ob3 | exact oa4 | exact ob4 | exact oa5 | exact ob5 | exact oa6 | exact ob6 | exact oa7 | exact ob7)
  k_with "odd" => (first | exact oa1 ob7 | exact oa2 ob7 | exact oa3 ob7 | exact oa4 ob7 | exact oa5 ob7 | exact oa6 ob7 | exact oa7 ob7 | exact oa1 (ob7 ob7) | exact oa2 (ob7 ob7) | exact oa3 (ob7 ob7) | exact oa4 (ob7 ob7) | exact oa5 (ob7 ob7) | exact oa6 (ob7 ob7) | exact oa7 (ob7 ob7) | exact ob1 ob7 | exact ob2 ob7 | exact ob3 ob7 | exact ob4 ob7 | exact ob5 ob7 | exact ob6 ob7 | exact ob7 ob7)
  k_with "oin" => (first | decide | exact oI1 | exact oI3 | exact oI2 (by k_extra "oas"))
  k_with "om" => (with_reducible first | (first | assumption | ((fail_if_success fail_if_success refine oXn ?_); k_extra "one") | ((fail_if_success fail_if_success refine oXl ?_); k_extra "ol1") | ((fail_if_success fail_if_success refine oXe ?_); k_extra "oe1") | k_extra "oin") | fail)
  k_with "S_fit" => (first | omega | ((simp only [S_len, List.length_append, List.length_cons, List.length_nil, List.length_take, List.length_drop, dots, PySem.sizeLine_eq]); omega))
  k_with "call builtin:len" => (((with_reducible show wpAny _ _ (call (Value.builtin "len") [Value.str (S _) _]) _ _ _); refine r_len (by walk_at "S_fit") ?_))
  k_with "call builtin:str.startswith" => (((with_reducible show wpAny _ _ (call (Value.builtin "str.startswith") [Value.str (S _) _, Value.str (S _) _]) _ _ _); refine r_starts ?_))
  k_with "call builtin:str.endswith" => (((with_reducible show wpAny _ _ (call (Value.builtin "str.endswith") [Value.str (S _) _, Value.str (S _) _]) _ _ _); refine r_ends ?_))
  k_with "truthy str" => (((with_reducible show wpAny _ _ (truthy (Value.str (S _) _)) _ _ _); refine r_truthy (by walk_at "S_fit") ?_))
  k_with "exec For Name Name cons nil" => ((k_here; (rename Fr _ _ _ _ => Z6Xa); (with_unfolding_all refine' For_invVF Z6Xa ?Q6Xa ?Q6Xb ?_; (case Q6Xa => exact rfl); (case Q6Xb => exact rfl); k_whole)))
  k_with "pyIter ref" => (((with_reducible show wpAny _ _ (pyIter (Value.ref _)) (fun it s₂ => LoopAtV _ _ _ _ _ _ _ _ _ it s₂) _ _); k_listUnr))
  k_with "S_enter" => ((refine' code_defG (news := []) ?Q8Xa ?Q8Xb ?Q8Xc ?Q8Xd ?Q8Xe ?Q8Xf ?Q8Xg ?Q8Xh ?Q8Xi ?Q8Xj ?Q8Xk ?Q8Xl ?Q8Xm ?_ ?Q8Xn ?Q8Xo ?Q8Xp ?Q8Xq; (case Q8Xf => exact rfl); (case Q8Xg => exact rfl); (case Q8Xh => assumption); (case Q8Xa => k_asm); (case Q8Xb => k_asm); (case Q8Xc => k_asm); (case Q8Xd => exact News.nil); (case Q8Xe => k_asm); (case Q8Xi => k_is); (case Q8Xj => k_is); (case Q8Xk => ktr_room); (case Q8Xl => exact BindsTo.of_eq rfl); (case Q8Xq => decide); (case Q8Xm => exact locs rfl); (case Q8Xn => exact rfl); (case Q8Xo => exact rfl); (case Q8Xp => exact rfl); k_whole; intro Z8Xh Z8Xd Z8Xi Z8Xc Z8Xb Z8Xe Z8Xa Z8Xg Z8Xf Z8Xj; (try dsimp only [List.map_nil] at Z8Xj); (try dsimp only); (try k_lift Z8Xa); (try k_fold)))
  k_with "S_look" => (first | exact rfl | assumption | exact (if_pos rfl) | (refine (if_neg (by decide)).trans ?_; walk_at "S_look"))
  k_with "eval Name" => ((k_here; k_dflt (refine' nameX_L ?QaXa ?QaXb ?_ ?QaXc ?QaXd; (case QaXa => k_asm); (case QaXc => rfl); (case QaXd => rfl); (case QaXb => walk_at "S_look"); k_whole)))
  k_with "S_lit" => (first | (with_reducible exact lit_dots) | (with_reducible rfl))
  k_with "S_nn" => (first | omega | ((simp only [List.length_append, List.length_cons, List.length_nil, List.length_take, List.length_drop, dots] at *); omega))
  k_with "binaryOp Add str str" => (((with_reducible show wpAny _ _ (binaryOp _ (Value.str _ _) (Value.str _ _)) _ _ _); k_dflt (refine r_add (by walk_at "S_lit") (by walk_at "S_lit") (by walk_at "S_fit") ?_); intro _ _))
  k_with "subscriptTail Name Slice str ref" => (((with_reducible show wpAny _ _ (subscriptTail _ (Expr.Slice none (some _) none _) (Value.str (S _) _) _) _ _ _); (with_reducible rename Fr _ _ _ _ => ZeXa); (with_reducible rename News _ _ _ _ => ZeXb); (refine r_sliceTo (s := ⟨_, _, _, _, _⟩) ZeXa ZeXb (by walk_at "S_nn") (by walk_at "S_fit") ?_); intro _ _ _ _ _))
  k_with "subscriptTail Name Slice str ref" => (((with_reducible show wpAny _ _ (subscriptTail _ (Expr.Slice (some _) none none _) (Value.str (S _) _) _) _ _ _); (with_reducible rename Fr _ _ _ _ => ZfXa); (with_reducible rename News _ _ _ _ => ZfXb); (refine r_sliceFrom (s := ⟨_, _, _, _, _⟩) ZfXa ZfXb (by walk_at "S_nn") (by walk_at "S_fit") ?_); intro _ _ _ _ _))
  k_with "exec For Name Call cons nil" => ((k_here; (rename Fr _ _ _ _ => ZgXa); (with_unfolding_all refine' For_invVF ZgXa ?QgXa ?QgXb ?_; (case QgXa => exact rfl); (case QgXb => exact rfl); k_whole)))
  k_with "S_use" => ((refine' pcon_use ?QhXa ?QhXb ?QhXc ?QhXd ?QhXe ?QhXf ?QhXg ?QhXh ?_; (case QhXb => k_asm); (case QhXc => k_asm); (case QhXd => k_asm); (case QhXe => k_asm); (case QhXa => walk_at "S_con"); (case QhXf => first | exact rfl | assumption); (case QhXg => ktr_room); (case QhXh => ktr_units)))
  k_with "call ref" => ((k_here; k_dflt (walk_at "S_use"); intro ZiXf ZiXd ZiXe ZiXb; (have ZiXa := Fr.keeps (by k_asm) ZiXb); (have ZiXc := News.grown (by k_asm) ZiXb); walk_at "S_back" <;> ((try dsimp only); (try k_fold))))
  k_with "pyIter ref" => (k_extra "S_loop")
  k_with "S_bool" => ((intro ZkXa; (rcases bool_or ZkXa with ⟨R8, R7⟩ | ⟨R8, R7⟩) <;> subst R7))
  k_with "call builtin:list.append" => ((k_here; (with_reducible show wpAny _ _ (call (Value.builtin _) [Value.ref _, _]) _ _ _); k_dflt (refine' append_K ?QlXa ?QlXb ?QlXc ?_ ?QlXd; (case QlXa => k_asm); (case QlXb => k_asm); (case QlXc => k_upd); (case QlXd => exact size_ok (k := 100000) (by omega) (by decide)); k_whole); intro ZlXc ZlXa ZlXb; (try k_sweep)))
  k_with "m_k_room" => (ktr_room)
  k_with "m_k_units" => (ktr_units)
  k_with "S_enterM" => ((refine' code_defG ?QoXa ?QoXb ?QoXc ?QoXd ?QoXe ?QoXf ?QoXg ?QoXh ?QoXi ?QoXj ?QoXk ?QoXl ?QoXm ?_ ?QoXn ?QoXo ?QoXp ?QoXq; (case QoXf => exact rfl); (case QoXg => exact rfl); (case QoXh => assumption); (case QoXa => k_asm); (case QoXb => k_asm); (case QoXc => k_asm); (case QoXd => k_asm); (case QoXe => k_asm); (case QoXi => k_is); (case QoXj => k_is); (case QoXk => ktr_room); (case QoXl => exact BindsTo.of_eq rfl); (case QoXq => decide); (case QoXm => exact locs rfl); (case QoXn => exact rfl); (case QoXo => exact rfl); (case QoXp => exact rfl); k_whole; intro ZoXh ZoXd ZoXi ZoXc ZoXb ZoXe ZoXa ZoXg ZoXf ZoXj; (try dsimp only [List.map_nil, List.map_cons] at ZoXj); (try dsimp only); (try k_lift ZoXa); (try k_fold)))
  k_with "callWith" => (((with_reducible show wpAny _ _ (callWith _ (Prod.fst _) (Prod.snd _) _ _) _ _ _); dsimp only))
  k_with "S_int" => (first | omega | decide | ((simp only [List.length_cons, List.length_nil, decide_eq_true_eq, decide_eq_false_iff_not, beq_iff_eq, beq_eq_false_iff_ne, ne_eq, Int.not_lt, Int.not_le] at *); omega))
  k_with "binaryOp FloorDiv int int" => (((with_reducible show wpAny _ _ (binaryOp _ (Value.int _ _) (Value.int _ _)) _ _ _); k_dflt (refine r_fdiv (by walk_at "S_int") (by walk_at "S_int") ?_); intro _ _))
  k_with "binaryOp Mod int int" => (((with_reducible show wpAny _ _ (binaryOp _ (Value.int _ _) (Value.int _ _)) _ _ _); k_dflt (refine r_fmod (by walk_at "S_int") ?_); intro _ _))
  k_with "S_item" => (((with_reducible show wpAny _ _ (subscriptTail _ _ (Value.str (S _) _) (Value.int _ _)) _ _ _); k_dflt (refine r_item (by walk_at "S_int") (by walk_at "S_int") (by walk_at "S_fit") ?_); intro _ _))
  k_with "subscriptTail Name BinOp str int" => (walk_at "S_item")
  k_with "subscriptTail Name Constant str int" => (walk_at "S_item")
  k_with "subscriptTail Name Name str int" => (walk_at "S_item")
  k_with "S_lit" => (first | (with_reducible exact lit_dots) | (with_reducible exact lit_empty) | (with_reducible exact lit34) | (with_reducible exact lit9234) | (with_reducible exact lit92) | (with_reducible exact lit10) | (with_reducible exact lit38) | (with_reducible exact lit59) | (with_reducible rfl))
  k_with "call builtin:str.replace" => (((with_reducible show wpAny _ _ (call (Value.builtin _) [Value.str (S _) _, Value.str _ _, Value.str _ _]) _ _ _); k_dflt (refine r_replace (by walk_at "S_lit") (by walk_at "S_lit") (by decide) (Nat.succ_ne_zero _) (Nat.succ_ne_zero _) (Nat.ne_of_lt (Nat.lt_succ_self _)) (by decide) (by walk_at "S_nn") ?_); intro _ _))
  k_with "call builtin:str.join" => ((k_here; (with_reducible show wpAny _ _ (call (Value.builtin _) [Value.str _ _, Value.ref _]) _ _ _); k_dflt (refine r_join (by walk_at "S_lit") (by walk_at "S_isl") (by walk_at "S_strs") (by walk_at "S_sum") ?_); intro _ _))
  k_with "S_isl" => (first | assumption | exact ⟨LCg.lst _, News.get (by k_asm) (by k_mem), rfl, _, rfl⟩ | is_list)
  k_with "S_strs" => (first | exact StrsAre.nil | assumption | (exact CharsAre.strs (by assumption)))
  k_with "binaryOp Mult str int" => (((with_reducible show wpAny _ _ (binaryOp _ (Value.str (S _) _) (Value.int _ _)) _ _ _); k_dflt (refine r_mul (by walk_at "S_int") (by walk_at "S_int") (by walk_at "S_nn") ?_); intro _ _))
  k_with "S_enterC" => ((refine' code_defCG ?Q13Xa ?Q13Xb ?Q13Xc ?Q13Xd ?Q13Xe ?Q13Xf ?Q13Xg ?Q13Xh ?Q13Xi ?Q13Xj ?Q13Xk ?Q13Xl ?Q13Xm ?Q13Xn ?_ ?Q13Xo ?Q13Xp ?Q13Xq; (case Q13Xf => exact rfl); (case Q13Xg => exact rfl); (case Q13Xh => assumption); (case Q13Xa => k_asm); (case Q13Xb => k_asm); (case Q13Xc => k_asm); (case Q13Xd => k_asm); (case Q13Xe => k_asm); (case Q13Xi => k_is); (case Q13Xj => k_is); (case Q13Xk => ktr_room); (case Q13Xl => exact BindsTo.of_eq rfl); (case Q13Xm => rfl); (case Q13Xn => decide); (case Q13Xo => exact rfl); (case Q13Xp => exact rfl); (case Q13Xq => exact rfl); k_whole; intro Z13Xj Z13Xd Z13Xk Z13Xo Z13Xi Z13Xc Z13Xb Z13Xe Z13Xh Z13Xa Z13Xg Z13Xf Z13Xm Z13Xl Z13Xn; (try dsimp only [List.map_nil, List.map_cons] at Z13Xl); (try k_lt Z13Xm); k_cells Z13Xh; (try simp only [List.cons_append, List.nil_append] at Z13Xe); (try dsimp only); (try k_lift Z13Xa); (try k_fold)))
  k_with "S_lcs" => ((k_here; k_dflt (refine ListComp_S (_F₀ := by k_asm) (by rfl) (by decide) (by rfl) (by decide) (by rfl) ?_)))
  k_with "S_lit" => (first | (with_reducible exact lit_dots) | (with_reducible exact lit_empty) | (with_reducible exact lit34) | (with_reducible exact lit9234) | (with_reducible exact lit92) | (with_reducible exact lit10) | (with_reducible exact lit38) | (with_reducible exact lit59) | (with_reducible exact lit60) | (with_reducible exact lit62) | (with_reducible exact lit13) | (with_reducible exact lit9) | (with_reducible exact litamp) | (with_reducible exact litlt) | (with_reducible exact litgt) | (with_reducible exact litquot) | (with_reducible rfl))
  k_with "S_sum" => (assumption)
  trivial
theorem fn_of_in {K : Frag} {f : Addr} {h : Heap} (e : fnIn K f = true) (X : K.In h) : ∃ o fd, h.get? f = some o ∧ o.data = .func fd := by
  unfold fnIn at e
  split at e
  · rename_i q; exact ⟨_, _, X _ _ q, rfl⟩
  · cases e
theorem rdr_le {l P r ln tl pb kp lf kl} (ok : RP.Ok r) : ∀ a ∈ (rdr l P r ln tl pb kp lf kl).map (·.1), @LE.le Nat _ a r.aP := by
  obtain ⟨hd1, hd2, hd3, o1, o2, o3, o4, o5, o6, o7, o8, o9⟩ := ok
  intro a ha
  simp only [rdr, rdr7, List.map_cons, List.map_nil, List.mem_cons, List.not_mem_nil, or_false] at ha
  rcases ha with rfl | rfl | rfl | rfl | rfl | rfl | rfl | rfl | rfl | rfl <;> omega
theorem use_rc {w : World} {p loose mean mg mb} (r : RP) (ok : r.Ok) (dp un : Nat) (gd : Option (List Code)) (cn : PySem.Str) (cs : Scope) (a : Addr) (ccd : Value) (cl : List (PySem.Str × Addr)) (outer : List Env) (A₀ : Around) (base h₀ : Heap) (L : Addr) (m : PySem.Str → Option Value) (s : Shared) (Q E : Value → Shared → Prop)
    (own : List (Addr × Obj)) (ln : Int) (tl : Tok) (pb : List Value) (kp : Nat) (us : List Value) (kl : Nat) (st : List Nat) (c : Nat) (tc : Tok) (hlf : CharsAre us st) (hl : st.length ≤ 1000) (h8 : (st ++ [c]).all (· < 0x110000) = true)
    (hB : Below A₀ base outer h₀) (hF : Fr h₀ L s.heap m) (hX : (hd.heap_1 w.params).In h₀) (hT : Top p loose mean mg mb h₀) (hk : cs.kind = .function) (hr : dp + 6 < recursionLimit) (hu : un + 16 * 6 < cLine) (hC : CodeHd base 111 107)
    (hN : News h₀ L s.heap (own ++ rdr 154 w.params r ln tl pb kp (us ++ [.str (S [c]) tc]) kl)) (ho : ∀ p ∈ own, @LT.lt Nat _ r.aP p.1)
    (h : ∀ h' tk' tl', Fr h₀ L h' m → News h₀ L h' (own ++ rdr 154 w.params r (ln + if c = 10 then 1 else 0) tl' pb kp us (kl + 1)) → Q (.str (S [c]) tc) { s with heap := h', toks := tk' }) :
    codeAny (model Challenge.pw_sc0056_01 w) (ktrTop dp un gd cn cs L a ccd cl outer) (.call (.ref 42) ⟨[.ref r.aR], []⟩) (fun r s' => match r with | .ok (.ret v) => Q v s' | .ok _ => False | .error e => E e s') s :=
  con_rc r ok ln tl pb kp us kl st c tc hlf hl h8 dp un gd cn cs a ccd cl outer A₀ base h₀ L m s Q E hB hF hX hT hk hr hu hC (fun q hq => hN q (List.mem_append_right _ hq)) fun v post h' tk' F' N' K' R => by
    obtain ⟨rfl, tl', rfl⟩ := R
    refine h h' tk' tl' F' (News.append (news_kept (fun q hq => hN q (List.mem_append_left _ hq)) (fun q hq hm => ?_) K') N')
    have := rdr_le ok _ hm
    have := ho q hq
    exact absurd this (Nat.not_lt.mpr ‹_›)
theorem use_rc2 {w : World} {p loose mean mg mb} (r : RP) (ok : r.Ok) {dp un : Nat} {gd : Option (List Code)} {cn : PySem.Str} {cs : Scope} {a : Addr} {ccd : Value} {cl : List (PySem.Str × Addr)} {outer : List Env} {A₀ : Around} {base h₀ : Heap} {L : Addr} {m : PySem.Str → Option Value} {s : Shared} {Q E : Value → Shared → Prop}
    {own : List (Addr × Obj)} {ln : Int} {tl : Tok} {pb : List Value} {kp : Nat} {lf : List Value} {kl : Nat} {st : List Nat} (hlf : CharsAre lf st.reverse) (hl : st.length ≤ 1000) (h8 : st.all (· < 0x110000) = true) (hne : st ≠ [])
    (hB : Below A₀ base outer h₀) (hF : Fr h₀ L s.heap m) (hX : (hd.heap_1 w.params).In h₀) (hT : Top p loose mean mg mb h₀) (hk : cs.kind = .function) (hr : dp + 6 < recursionLimit) (hu : un + 16 * 6 < cLine) (hC : CodeHd base 111 107)
    (hN : News h₀ L s.heap (own ++ rdr 154 w.params r ln tl pb kp lf kl)) (ho : ∀ p ∈ own, @LT.lt Nat _ r.aP p.1)
    (h : ∀ h' tk' tl' us tc, CharsAre us st.tail.reverse → Fr h₀ L h' m → News h₀ L h' (own ++ rdr 154 w.params r (ln + if st.headD 0 = 10 then 1 else 0) tl' pb kp us (kl + 1)) → Q (.str (S [st.headD 0]) tc) { s with heap := h', toks := tk' }) :
    codeAny (model Challenge.pw_sc0056_01 w) (ktrTop dp un gd cn cs L a ccd cl outer) (.call (.ref 42) ⟨[.ref r.aR], []⟩) (fun r s' => match r with | .ok (.ret v) => Q v s' | .ok _ => False | .error e => E e s') s := by
  cases st with
  | nil => exact absurd rfl hne
  | cons c st' =>
    obtain ⟨us, tc, rfl, hus⟩ := chars_snoc hlf
    refine use_rc r ok dp un gd cn cs a ccd cl outer A₀ base h₀ L m s Q E own ln tl pb kp us kl st'.reverse c tc hus ?_ ?_ hB hF hX hT hk hr hu hC hN ho fun h' tk' tl' F' N' => h h' tk' tl' us tc hus F' N'
    · simp only [List.length_reverse]; simp only [List.length_cons] at hl; omega
    · simp only [List.all_cons, Bool.and_eq_true] at h8
      simp [List.all_append, List.all_reverse, h8.1, h8.2]
/-- the iterator's next -/
theorem cit_step {w : World} {p loose mean mg mb} (r : RP) (ok : r.Ok) {dp un : Nat} {gd : Option (List Code)} {cn : PySem.Str} {cs : Scope} {a : Addr} {ccd : Value} {cl : List (PySem.Str × Addr)} {outer : List Env} {A₀ : Around} {base h₀ : Heap} {L : Addr} {m : PySem.Str → Option Value} {s : Shared} {Q : Option Value → Shared → Prop} {E : Value → Shared → Prop}
    {D bm : Addr} {tv : Tok} {ln : Int} {tl : Tok} {pb : List Value} {kp : Nat} {lf : List Value} {kl : Nat} {st : List Nat} (hlf : CharsAre lf st.reverse) (hl : st.length ≤ 1000) (h8 : st.all (· < 0x110000) = true)
    (hB : Below A₀ base outer h₀) (hF : Fr h₀ L s.heap m) (hX : (hd.heap_1 w.params).In h₀) (hT : Top p loose mean mg mb h₀) (hk : cs.kind = .function) (hr : dp + 6 < recursionLimit) (hu : un + 1 + 16 * 6 < cLine) (hC : CodeHd base 111 107)
    (hN : News h₀ L s.heap ([(D, citObj (.ref bm) (.str (S []) tv) false), (bm, methodObj (.ref 42) (.ref r.aR))] ++ rdr 154 w.params r ln tl pb kp lf kl)) (l1 : @LT.lt Nat _ r.aP bm) (l2 : @LT.lt Nat _ bm D)
    (hnil : st = [] → ∀ h' tk', Fr h₀ L h' m → News h₀ L h' (rdr 154 w.params r ln tl pb kp lf kl) → Q none { s with heap := h', toks := tk' })
    (hcons : st ≠ [] → ∀ h' tk' tl' us tc, CharsAre us st.tail.reverse → Fr h₀ L h' m → News h₀ L h' ([(D, citObj (.ref bm) (.str (S []) tv) false), (bm, methodObj (.ref 42) (.ref r.aR))] ++ rdr 154 w.params r (ln + if st.headD 0 = 10 then 1 else 0) tl' pb kp us (kl + 1)) → Q (some (.str (S [st.headD 0]) tc)) { s with heap := h', toks := tk' }) :
    wpAny (model Challenge.pw_sc0056_01 w) (ktrTop dp un gd cn cs L a ccd cl outer) (pyNext (.ref D)) Q E s := by
  have f42 : fnIn (hd.heap_1 w.params) 42 = true := by rfl
  have hD0 : ∀ (k : Addr) (o : Obj), (k, o) ∈ ([(D, citObj (.ref bm) (.str (S []) tv) false), (bm, methodObj (.ref 42) (.ref r.aR))] ++ rdr 154 w.params r ln tl pb kp lf kl) → h₀.get? k = none := fun k o hm => (hN _ hm).2.2
  have hown : ∀ p ∈ [(D, citObj (.ref bm) (.str (S []) tv) false), (bm, methodObj (.ref 42) (.ref r.aR))], @LT.lt Nat _ r.aP p.1 := by
    intro p hp
    simp only [List.mem_cons, List.not_mem_nil, or_false] at hp
    rcases hp with rfl | rfl
    · exact Nat.lt_trans l1 l2
    · exact l1
  refine r_citNext (self := .ref r.aR) rfl (hN _ (.head _)).1 (hN _ (.tail _ (.head _))).1 (fn_of_in f42 (hX.keeps hF.keep)) fun E' => ?_
  refine call_meth hN (.tail _ (.head _)) ?_
  by_cases e : st = []
  · subst e
    cases hlf
    refine con_rc0 r ok ln tl pb kp kl dp (un + 1) gd cn cs a ccd cl outer A₀ base h₀ L m s _ _ hB hF hX hT hk hr hu hC (fun q hq => hN q (List.mem_append_right _ hq)) fun v post h' tk' F' N' K' R => ?_
    obtain ⟨⟨t, rfl⟩, rfl⟩ := R
    have No := news_kept (fun q hq => hN q (List.mem_append_left _ hq)) (fun q hq hm => absurd (rdr_le ok _ hm) (Nat.not_le.mpr (hown q hq))) K'
    refine ⟨[], t, rfl, (No _ (.head _)).1, (No _ (.tail _ (.head _))).1, fn_of_in f42 (hX.keeps F'.keep), fun q => absurd rfl q, fun _ h'' ex => ?_⟩
    refine hnil rfl h'' tk' (fr_butD F' (No _ (.head _)).2.1 (No _ (.head _)).2.2 ex) (news_butD N' (fun q hq hD => ?_) ex)
    have := rdr_le (l := 154) (P := w.params) (ln := ln) (tl := tl) (pb := pb) (kp := kp) (lf := []) (kl := kl) ok _ (List.mem_map_of_mem hq)
    rw [hD] at this
    exact absurd this (Nat.not_le.mpr (Nat.lt_trans l1 l2))
  · refine use_rc2 (un := un + 1) r ok hlf hl h8 e hB hF hX hT hk hr hu hC hN hown fun h' tk' tl' us tc hus F' N' => ?_
    exact ⟨[st.headD 0], tc, rfl, (N' _ (.head _)).1, (N' _ (.tail _ (.head _))).1, fn_of_in f42 (hX.keeps F'.keep), fun _ => hcons e h' tk' tl' us tc hus F' N', fun q => by cases q⟩
end
section
local macro_rules | `(tactic| walk_at "zz0") => `(tactic| fail)
local macro_rules | `(tactic| walk_at "zz1") => `(tactic| fail)
local macro_rules | `(tactic| walk_at "zz2") => `(tactic| fail)
noncomputable def lawSt : Stmt := (Challenge.pw_sc0056_01.main.body.getLast?).getD (.Pass default)
noncomputable def lawBody : List Stmt := match lawSt with | .FunctionDef _ _ b .. => b | _ => []
noncomputable def lawScope : Scope := match lawSt with | .FunctionDef _ _ _ _ _ _ sc .. => sc | _ => default
noncomputable abbrev lawN : PySem.Str := PySem.Str.ofString "law"
noncomputable abbrev lawCl (L : Addr) : List (PySem.Str × Addr) := cellsFrom (L + 1) lawScope.names []
noncomputable abbrev lawEnv (L fa : Addr) (ccd : Value) : Env := envX lawN lawScope L fa ccd (lawCl L)
noncomputable abbrev lawA (dp un : Nat) (gd : Option (List Code)) (L fa : Addr) (ccd : Value) (outer : List Env) : Around := ktrTop dp un gd lawN lawScope L fa ccd (lawCl L) outer
/-- how the law ends -/
noncomputable abbrev Ends (g : Heap) (L : Addr) (s : Shared) (Q : Flow → Shared → Prop) : Prop := ∀ h' m' tk ps, Fr g L h' m' → News g L h' [(107, tabObj ps)] → Q (.ret (.bool true)) { s with heap := h', toks := tk }
end
section
example : True := by
  k_with_none
  w_top off
  k_with "olt" => (first | assumption | ((fail_if_success refine oM ?_); refine oL ?_; k_extra "ole") | k_extra "olh")
  k_with "olh" => (refine oH (by assumption) (by k_extra "ole"))
  k_with "ole" => (first | exact Nat.le_refl _ | assumption | exact oB | ((first | refine oA ?_ | refine oA2 ?_ | refine oA3 ?_); k_extra "ocl") | (refine oS ?_; k_extra "ole") | (refine Nat.le_of_lt ?_; (first | assumption | k_extra "olh")) | exact oE)
  k_with "olt2" => (first | k_extra "oas" | ((fail_if_success refine oM ?_); refine oL ?_; k_extra "ole2") | k_extra "olh2")
  k_with "olh2" => (refine oH (by k_extra "oas") (by k_extra "ole2"))
  k_with "ole2" => (first | exact Nat.le_refl _ | k_extra "oas" | exact oB | ((first | refine oA ?_ | refine oA2 ?_ | refine oA3 ?_); k_extra "ocl") | (refine oS ?_; k_extra "ole2") | (refine Nat.le_of_lt ?_; (first | k_extra "oas" | k_extra "olh2")) | exact oE)
  k_with "opu" => (first | exact oB | exact Nat.le_refl _ | (refine oS ?_; k_extra "opu"))
  k_with "olt0" => (refine oL ?_; k_extra "opu")
  k_with "one" => (first | (refine Nat.ne_of_gt ?_; (fail_if_success refine oM ?_); k_extra "olt0") | (refine Nat.ne_of_lt ?_; (fail_if_success refine oM ?_); k_extra "olt0") | exact Ne.symm (by assumption) | (refine Nat.ne_of_gt ?_; (fail_if_success refine oM ?_); k_extra "oas") | (refine Nat.ne_of_lt ?_; (fail_if_success refine oM ?_); k_extra "oas") | (refine Nat.ne_of_gt ?_; (fail_if_success refine oM ?_); k_extra "odd") | (refine Nat.ne_of_lt ?_; (fail_if_success refine oM ?_); k_extra "odd") | (refine Nat.ne_of_gt ?_; (fail_if_success refine oM ?_); k_extra "olt") | (refine Nat.ne_of_lt ?_; (fail_if_success refine oM ?_); k_extra "olt") | (refine Nat.ne_of_gt ?_; (fail_if_success refine oM ?_); k_extra "olt2") | (refine Nat.ne_of_lt ?_; (fail_if_success refine oM ?_); k_extra "olt2") | decide)
  k_with "ol1" => (first | ((fail_if_success refine oM ?_); first | k_extra "oas" | k_extra "olt0" | k_extra "odd" | k_extra "olt" | k_extra "olt2") | k_extra "ocl" | exact oT0 | exact oT5)
  k_with "oe1" => (first | ((fail_if_success refine oN ?_); first | k_extra "oas" | k_extra "opu" | k_extra "ole" | k_extra "ole2" | exact oE (by k_extra "oas")) | k_extra "ocl" | k_extra "olit" | k_extra "oas")
  k_with "olit" => (first | exact oT4 | exact oP | exact oP2 | exact oT1 | exact oT2 | exact oT3 | exact oQ5 | exact oQ1 | exact oQ2 | exact oQ3 | exact oQ4 | exact oQ6 | exact oD)
  k_with "ocl" => (with_unfolding_all exact Nat.le_of_ble_eq_true rfl)
  k_with "oas" => (first | assumption | exact oa1 | exact ob1 | exact oa2 | exact ob2 | exact oa3 | exact ob3 | exact oa4 | exact ob4 | exact oa5 | exact ob5 | exact oa6 | exact ob6 | exact oa7 | exact ob7)
  k_with "odd" => (first | exact oa1 ob7 | exact oa2 ob7 | exact oa3 ob7 | exact oa4 ob7 | exact oa5 ob7 | exact oa6 ob7 | exact oa7 ob7 | exact oa1 (ob7 ob7) | exact oa2 (ob7 ob7) | exact oa3 (ob7 ob7) | exact oa4 (ob7 ob7) | exact oa5 (ob7 ob7) | exact oa6 (ob7 ob7) | exact oa7 (ob7 ob7) | exact ob1 ob7 | exact ob2 ob7 | exact ob3 ob7 | exact ob4 ob7 | exact ob5 ob7 | exact ob6 ob7 | exact ob7 ob7)
  k_with "oin" => (first | decide | exact oI1 | exact oI3 | exact oI2 (by k_extra "oas"))
  k_with "om" => (with_reducible first | (first | assumption | ((fail_if_success fail_if_success refine oXn ?_); k_extra "one") | ((fail_if_success fail_if_success refine oXl ?_); k_extra "ol1") | ((fail_if_success fail_if_success refine oXe ?_); k_extra "oe1") | k_extra "oin") | fail)
  k_with "S_fit" => (first | omega | ((simp only [S_len, List.length_append, List.length_cons, List.length_nil, List.length_take, List.length_drop, dots, PySem.sizeLine_eq]); omega))
  k_with "call builtin:len" => (((with_reducible show wpAny _ _ (call (Value.builtin "len") [Value.str (S _) _]) _ _ _); refine r_len (by walk_at "S_fit") ?_))
  k_with "call builtin:str.startswith" => (((with_reducible show wpAny _ _ (call (Value.builtin "str.startswith") [Value.str (S _) _, Value.str (S _) _]) _ _ _); refine r_starts ?_))
  k_with "call builtin:str.endswith" => (((with_reducible show wpAny _ _ (call (Value.builtin "str.endswith") [Value.str (S _) _, Value.str (S _) _]) _ _ _); refine r_ends ?_))
  k_with "truthy str" => (((with_reducible show wpAny _ _ (truthy (Value.str (S _) _)) _ _ _); refine r_truthy (by walk_at "S_fit") ?_))
  k_with "exec For Name Name cons nil" => ((k_here; (rename Fr _ _ _ _ => Z6Xa); (with_unfolding_all refine' For_invVF Z6Xa ?Q6Xa ?Q6Xb ?_; (case Q6Xa => exact rfl); (case Q6Xb => exact rfl); k_whole)))
  k_with "pyIter ref" => (((with_reducible show wpAny _ _ (pyIter (Value.ref _)) (fun it s₂ => LoopAtV _ _ _ _ _ _ _ _ _ it s₂) _ _); k_listUnr))
  k_with "S_enter" => ((refine' code_defG (news := []) ?Q8Xa ?Q8Xb ?Q8Xc ?Q8Xd ?Q8Xe ?Q8Xf ?Q8Xg ?Q8Xh ?Q8Xi ?Q8Xj ?Q8Xk ?Q8Xl ?Q8Xm ?_ ?Q8Xn ?Q8Xo ?Q8Xp ?Q8Xq; (case Q8Xf => exact rfl); (case Q8Xg => exact rfl); (case Q8Xh => assumption); (case Q8Xa => k_asm); (case Q8Xb => k_asm); (case Q8Xc => k_asm); (case Q8Xd => exact News.nil); (case Q8Xe => k_asm); (case Q8Xi => k_is); (case Q8Xj => k_is); (case Q8Xk => ktr_room); (case Q8Xl => exact BindsTo.of_eq rfl); (case Q8Xq => decide); (case Q8Xm => exact locs rfl); (case Q8Xn => exact rfl); (case Q8Xo => exact rfl); (case Q8Xp => exact rfl); k_whole; intro Z8Xh Z8Xd Z8Xi Z8Xc Z8Xb Z8Xe Z8Xa Z8Xg Z8Xf Z8Xj; (try dsimp only [List.map_nil] at Z8Xj); (try dsimp only); (try k_lift Z8Xa); (try k_fold)))
  k_with "S_look" => (first | exact rfl | assumption | exact (if_pos rfl) | (refine (if_neg (by decide)).trans ?_; walk_at "S_look"))
  k_with "eval Name" => ((k_here; k_dflt (refine' nameX_L ?QaXa ?QaXb ?_ ?QaXc ?QaXd; (case QaXa => k_asm); (case QaXc => rfl); (case QaXd => rfl); (case QaXb => walk_at "S_look"); k_whole)))
  k_with "S_lit" => (first | (with_reducible exact lit_dots) | (with_reducible rfl))
  k_with "S_nn" => (first | omega | ((simp only [List.length_append, List.length_cons, List.length_nil, List.length_take, List.length_drop, dots] at *); omega))
  k_with "binaryOp Add str str" => (((with_reducible show wpAny _ _ (binaryOp _ (Value.str _ _) (Value.str _ _)) _ _ _); k_dflt (refine r_add (by walk_at "S_lit") (by walk_at "S_lit") (by walk_at "S_fit") ?_); intro _ _))
  k_with "subscriptTail Name Slice str ref" => (((with_reducible show wpAny _ _ (subscriptTail _ (Expr.Slice none (some _) none _) (Value.str (S _) _) _) _ _ _); (with_reducible rename Fr _ _ _ _ => ZeXa); (with_reducible rename News _ _ _ _ => ZeXb); (refine r_sliceTo (s := ⟨_, _, _, _, _⟩) ZeXa ZeXb (by walk_at "S_nn") (by walk_at "S_fit") ?_); intro _ _ _ _ _))
  k_with "subscriptTail Name Slice str ref" => (((with_reducible show wpAny _ _ (subscriptTail _ (Expr.Slice (some _) none none _) (Value.str (S _) _) _) _ _ _); (with_reducible rename Fr _ _ _ _ => ZfXa); (with_reducible rename News _ _ _ _ => ZfXb); (refine r_sliceFrom (s := ⟨_, _, _, _, _⟩) ZfXa ZfXb (by walk_at "S_nn") (by walk_at "S_fit") ?_); intro _ _ _ _ _))
  k_with "exec For Name Call cons nil" => ((k_here; (rename Fr _ _ _ _ => ZgXa); (with_unfolding_all refine' For_invVF ZgXa ?QgXa ?QgXb ?_; (case QgXa => exact rfl); (case QgXb => exact rfl); k_whole)))
  k_with "S_use" => ((refine' pcon_use ?QhXa ?QhXb ?QhXc ?QhXd ?QhXe ?QhXf ?QhXg ?QhXh ?_; (case QhXb => k_asm); (case QhXc => k_asm); (case QhXd => k_asm); (case QhXe => k_asm); (case QhXa => walk_at "S_con"); (case QhXf => first | exact rfl | assumption); (case QhXg => ktr_room); (case QhXh => ktr_units)))
  k_with "call ref" => ((k_here; k_dflt (walk_at "S_use"); intro ZiXf ZiXd ZiXe ZiXb; (have ZiXa := Fr.keeps (by k_asm) ZiXb); (have ZiXc := News.grown (by k_asm) ZiXb); walk_at "S_back" <;> ((try dsimp only); (try k_fold))))
  k_with "pyIter ref" => (k_extra "S_loop")
  k_with "S_bool" => ((intro ZkXa; (rcases bool_or ZkXa with ⟨R8, R7⟩ | ⟨R8, R7⟩) <;> subst R7))
  k_with "call builtin:list.append" => ((k_here; (with_reducible show wpAny _ _ (call (Value.builtin _) [Value.ref _, _]) _ _ _); k_dflt (refine' append_K ?QlXa ?QlXb ?QlXc ?_ ?QlXd; (case QlXa => k_asm); (case QlXb => k_asm); (case QlXc => k_upd); (case QlXd => exact size_ok (k := 100000) (by omega) (by decide)); k_whole); intro ZlXc ZlXa ZlXb; (try k_sweep)))
  k_with "m_k_room" => (ktr_room)
  k_with "m_k_units" => (ktr_units)
  k_with "S_enterM" => ((refine' code_defG ?QoXa ?QoXb ?QoXc ?QoXd ?QoXe ?QoXf ?QoXg ?QoXh ?QoXi ?QoXj ?QoXk ?QoXl ?QoXm ?_ ?QoXn ?QoXo ?QoXp ?QoXq; (case QoXf => exact rfl); (case QoXg => exact rfl); (case QoXh => assumption); (case QoXa => k_asm); (case QoXb => k_asm); (case QoXc => k_asm); (case QoXd => k_asm); (case QoXe => k_asm); (case QoXi => k_is); (case QoXj => k_is); (case QoXk => ktr_room); (case QoXl => exact BindsTo.of_eq rfl); (case QoXq => decide); (case QoXm => exact locs rfl); (case QoXn => exact rfl); (case QoXo => exact rfl); (case QoXp => exact rfl); k_whole; intro ZoXh ZoXd ZoXi ZoXc ZoXb ZoXe ZoXa ZoXg ZoXf ZoXj; (try dsimp only [List.map_nil, List.map_cons] at ZoXj); (try dsimp only); (try k_lift ZoXa); (try k_fold)))
  k_with "callWith" => (((with_reducible show wpAny _ _ (callWith _ (Prod.fst _) (Prod.snd _) _ _) _ _ _); dsimp only))
  k_with "S_int" => (first | omega | decide | ((simp only [List.length_cons, List.length_nil, decide_eq_true_eq, decide_eq_false_iff_not, beq_iff_eq, beq_eq_false_iff_ne, ne_eq, Int.not_lt, Int.not_le] at *); omega))
  k_with "binaryOp FloorDiv int int" => (((with_reducible show wpAny _ _ (binaryOp _ (Value.int _ _) (Value.int _ _)) _ _ _); k_dflt (refine r_fdiv (by walk_at "S_int") (by walk_at "S_int") ?_); intro _ _))
  k_with "binaryOp Mod int int" => (((with_reducible show wpAny _ _ (binaryOp _ (Value.int _ _) (Value.int _ _)) _ _ _); k_dflt (refine r_fmod (by walk_at "S_int") ?_); intro _ _))
  k_with "S_item" => (((with_reducible show wpAny _ _ (subscriptTail _ _ (Value.str (S _) _) (Value.int _ _)) _ _ _); k_dflt (refine r_item (by walk_at "S_int") (by walk_at "S_int") (by walk_at "S_fit") ?_); intro _ _))
  k_with "subscriptTail Name BinOp str int" => (walk_at "S_item")
  k_with "subscriptTail Name Constant str int" => (walk_at "S_item")
  k_with "subscriptTail Name Name str int" => (walk_at "S_item")
  k_with "S_lit" => (first | (with_reducible exact lit_dots) | (with_reducible exact lit_empty) | (with_reducible exact lit34) | (with_reducible exact lit9234) | (with_reducible exact lit92) | (with_reducible exact lit10) | (with_reducible exact lit38) | (with_reducible exact lit59) | (with_reducible rfl))
  k_with "call builtin:str.replace" => (((with_reducible show wpAny _ _ (call (Value.builtin _) [Value.str (S _) _, Value.str _ _, Value.str _ _]) _ _ _); k_dflt (refine r_replace (by walk_at "S_lit") (by walk_at "S_lit") (by decide) (Nat.succ_ne_zero _) (Nat.succ_ne_zero _) (Nat.ne_of_lt (Nat.lt_succ_self _)) (by decide) (by walk_at "S_nn") ?_); intro _ _))
  k_with "call builtin:str.join" => ((k_here; (with_reducible show wpAny _ _ (call (Value.builtin _) [Value.str _ _, Value.ref _]) _ _ _); k_dflt (refine r_join (by walk_at "S_lit") (by walk_at "S_isl") (by walk_at "S_strs") (by walk_at "S_sum") ?_); intro _ _))
  k_with "S_isl" => (first | assumption | exact ⟨LCg.lst _, News.get (by k_asm) (by k_mem), rfl, _, rfl⟩ | is_list)
  k_with "S_strs" => (first | exact StrsAre.nil | assumption | (exact CharsAre.strs (by assumption)))
  k_with "binaryOp Mult str int" => (((with_reducible show wpAny _ _ (binaryOp _ (Value.str (S _) _) (Value.int _ _)) _ _ _); k_dflt (refine r_mul (by walk_at "S_int") (by walk_at "S_int") (by walk_at "S_nn") ?_); intro _ _))
  k_with "S_enterC" => ((refine' code_defCG ?Q13Xa ?Q13Xb ?Q13Xc ?Q13Xd ?Q13Xe ?Q13Xf ?Q13Xg ?Q13Xh ?Q13Xi ?Q13Xj ?Q13Xk ?Q13Xl ?Q13Xm ?Q13Xn ?_ ?Q13Xo ?Q13Xp ?Q13Xq; (case Q13Xf => exact rfl); (case Q13Xg => exact rfl); (case Q13Xh => assumption); (case Q13Xa => k_asm); (case Q13Xb => k_asm); (case Q13Xc => k_asm); (case Q13Xd => k_asm); (case Q13Xe => k_asm); (case Q13Xi => k_is); (case Q13Xj => k_is); (case Q13Xk => ktr_room); (case Q13Xl => exact BindsTo.of_eq rfl); (case Q13Xm => rfl); (case Q13Xn => decide); (case Q13Xo => exact rfl); (case Q13Xp => exact rfl); (case Q13Xq => exact rfl); k_whole; intro Z13Xj Z13Xd Z13Xk Z13Xo Z13Xi Z13Xc Z13Xb Z13Xe Z13Xh Z13Xa Z13Xg Z13Xf Z13Xm Z13Xl Z13Xn; (try dsimp only [List.map_nil, List.map_cons] at Z13Xl); (try k_lt Z13Xm); k_cells Z13Xh; (try simp only [List.cons_append, List.nil_append] at Z13Xe); (try dsimp only); (try k_lift Z13Xa); (try k_fold)))
  k_with "S_lcs" => ((k_here; k_dflt (refine ListComp_S (_F₀ := by k_asm) (by rfl) (by decide) (by rfl) (by decide) (by rfl) ?_)))
  k_with "S_lit" => (first | (with_reducible exact lit_dots) | (with_reducible exact lit_empty) | (with_reducible exact lit34) | (with_reducible exact lit9234) | (with_reducible exact lit92) | (with_reducible exact lit10) | (with_reducible exact lit38) | (with_reducible exact lit59) | (with_reducible exact lit60) | (with_reducible exact lit62) | (with_reducible exact lit13) | (with_reducible exact lit9) | (with_reducible exact litamp) | (with_reducible exact litlt) | (with_reducible exact litgt) | (with_reducible exact litquot) | (with_reducible rfl))
  k_with "S_sum" => (assumption)
  k_with "call builtin:iter" => ((k_here; (with_reducible show wpAny _ _ (call (Value.builtin _) [Value.ref _, _]) _ _ _); k_dflt (refine' r_iter2 ?Q17Xa ?Q17Xb ?Q17Xc ?_; (case Q17Xa => k_asm); (case Q17Xb => k_asm); (case Q17Xc => k_mem)); (intro Z17Xa Z17Xd Z17Xb Z17Xc Z17Xe); (try k_lt Z17Xe)))
  k_with "exec For Name Name cons nil" => ((k_here; (rename Fr _ _ _ _ => Z18Xa); k_dflt (refine' For_own Z18Xa ?Q18Xa ?Q18Xb ?_; (case Q18Xa => exact rfl); (case Q18Xb => exact rfl); k_whole)))
  k_with "pyIter ref" => (k_extra "S_loop")
  k_with "pyIter ref" => ((k_here; (with_reducible show wpAny _ _ (pyIter _) _ _ _); k_dflt (refine r_citIter (News.get (by k_asm) (by k_mem)) ?_)))
  k_with "call ref" => ((k_here; (with_reducible show wpAny _ _ (call (Value.ref 42) _) _ _ _); (refine stop9 ?_)))
  k_with "compareOp In str str" => ((k_here; k_dflt (refine r_inWs ?_)))
  k_with "loadName" => ((k_here; k_dflt (refine' ldnX_L ?Q1dXa ?Q1dXb ?_ ?Q1dXc ?Q1dXd; (case Q1dXa => k_asm); (case Q1dXc => rfl); (case Q1dXd => rfl); (case Q1dXb => walk_at "S_look"); k_whole)))
  k_with "inplaceOp Add str str" => (((with_reducible show wpAny _ _ (inplaceOp _ (Value.str _ _) (Value.str _ _)) _ _ _); k_dflt (refine r_iadd (by walk_at "S_lit") (by walk_at "S_lit") (by walk_at "S_fit") ?_); intro _ _))
  trivial
noncomputable def GInv (P : Params) (r : RP) (g : Heap) (L D bm : Addr) (tv : Tok) (kp : Nat) (tot : Int) (fin : List Nat × List Nat) (run : List Nat → List Nat → Option (List Nat × List Nat)) (s0 : Shared) (n : Nat) (s : Shared) : Prop :=
  ∃ (h : Heap) (tk : Nat) (st tok : List Nat) (tkk : Tok) (ln : Int) (tl : Tok) (lf : List Value) (kl : Nat) (m : PySem.Str → Option Value), s = { s0 with heap := h, toks := tk } ∧ n = st.length ∧ run st tok = some fin ∧ CharsAre lf st.reverse ∧ st.length ≤ 900 ∧ st.all (· < 0x110000) = true ∧
    tok.length + st.length ≤ 900 ∧ ln + st.count 10 = tot ∧ Fr g L h m ∧ News g L h ([(D, citObj (.ref bm) (.str (S []) tv) false), (bm, methodObj (.ref 42) (.ref r.aR))] ++ rdr 154 P r ln tl [] kp lf kl) ∧
    m "self" = some (.ref r.aR) ∧ m "token" = some (.str (S tok) tkk) ∧ m "fiter" = some (.ref D)
theorem GInv.intro {P : Params} {r : RP} {g : Heap} {L D bm : Addr} {tv : Tok} {kp : Nat} {tot : Int} {fin : List Nat × List Nat} {run : List Nat → List Nat → Option (List Nat × List Nat)} {s0 : Shared}
    {h : Heap} {tk : Nat} {st tok : List Nat} {tkk : Tok} {ln : Int} {tl : Tok} {lf : List Value} {kl : Nat} {m : PySem.Str → Option Value} (hrun : run st tok = some fin) (hlf : CharsAre lf st.reverse) (hl : st.length ≤ 900) (h8 : st.all (· < 0x110000) = true)
    (hz : tok.length + st.length ≤ 900) (hln : ln + st.count 10 = tot) (F : Fr g L h m) (N : News g L h ([(D, citObj (.ref bm) (.str (S []) tv) false), (bm, methodObj (.ref 42) (.ref r.aR))] ++ rdr 154 P r ln tl [] kp lf kl))
    (hs : m "self" = some (.ref r.aR)) (ht : m "token" = some (.str (S tok) tkk)) (hf : m "fiter" = some (.ref D)) : GInv P r g L D bm tv kp tot fin run s0 st.length { s0 with heap := h, toks := tk } :=
  ⟨h, tk, st, tok, tkk, ln, tl, lf, kl, m, rfl, rfl, hrun, hlf, hl, h8, hz, hln, F, N, hs, ht, hf⟩
theorem GInv.start {P : Params} {r : RP} {g : Heap} {L D bm : Addr} {tv : Tok} {kp : Nat} {tot : Int} {fin : List Nat × List Nat} {run : List Nat → List Nat → Option (List Nat × List Nat)} {s : Shared}
    {st tok : List Nat} {tkk : Tok} {ln : Int} {tl : Tok} {lf : List Value} {kl : Nat} {m : PySem.Str → Option Value} (F : Fr g L s.heap m) (N : News g L s.heap ([(D, citObj (.ref bm) (.str (S []) tv) false), (bm, methodObj (.ref 42) (.ref r.aR))] ++ rdr 154 P r ln tl [] kp lf kl)) (hrun : run st tok = some fin) (hlf : CharsAre lf st.reverse) (hl : st.length ≤ 900) (h8 : st.all (· < 0x110000) = true)
    (hz : tok.length + st.length ≤ 900) (hln : ln + st.count 10 = tot) 
    (hs : m "self" = some (.ref r.aR)) (ht : m "token" = some (.str (S tok) tkk)) (hf : m "fiter" = some (.ref D)) : GInv P r g L D bm tv kp tot fin run s st.length s :=
  ⟨s.heap, s.toks, st, tok, tkk, ln, tl, lf, kl, m, rfl, rfl, hrun, hlf, hl, h8, hz, hln, F, N, hs, ht, hf⟩
noncomputable def run0 (st tok : List Nat) : Option (List Nat × List Nat) := if tok = [] then getTok st else none
theorem quote_iff (c : Nat) : (S [c] == PySem.Str.ofString "\"") = decide (c = 34) := by
  have e : PySem.Str.ofString "\"" = S [34] := by rfl
  rw [e, S_beq]
  by_cases h : c = 34 <;> simp [h]
theorem back_iff (c : Nat) : (S [c] == PySem.Str.ofString "\\") = decide (c = 92) := by
  have e : PySem.Str.ofString "\\" = S [92] := by rfl
  rw [e, S_beq]
  by_cases h : c = 92 <;> simp [h]
theorem con_gt {w : World} {p loose mean mg mb} (r : RP) (ok : r.Ok) (ln : Int) (tl : Tok) (kp : Nat) (lf : List Value) (kl : Nat) (st tok rest : List Nat) (hlf : CharsAre lf st.reverse) (hl : st.length ≤ 900)
    (h8 : st.all (· < 0x110000) = true) (hg : getTok st = some (tok, rest)) :
    MCon 111 107 10 Challenge.pw_sc0056_01 w (hd.heap_1 w.params) p loose mean mg mb 49 [.ref r.aR] (rdr 154 w.params r ln tl [] kp lf kl)
      (fun v post => ∃ t ln' tl' lf' kl', v = .str (S tok) t ∧ post = rdr 154 w.params r ln' tl' [] kp lf' kl' ∧ CharsAre lf' rest.reverse ∧ ln' + rest.count 10 = ln + st.count 10) := by
  have RC2 := @use_rc2 w p loose mean mg mb r ok
  have CS := @cit_step w p loose mean mg mb r ok
  obtain ⟨hd1, hd2, hd3, o1, o2, o3, o4, o5, o6, o7, o8, o9⟩ := ok
  (try dsimp only at hd1 hd2 hd3 o1 o2 o3 o4 o5 o6 o7 o8 o9)
  dsimp only [rdr, List.cons_append, List.nil_append] at CS
  dsimp only [rdr] at RC2
  dsimp only [MCon, rdr]
  intros
  rename_i hret
  k_dflt (walk_at "S_enterM")
  k_with "S_loop" => (refine stop9 ?_)
  k_steps
  rename News _ _ _ _ => N6
  rename Fr _ _ _ _ => F6
  rename r.aP < _ ∧ _ => l1
  rename _ < _ ∧ r.aP < _ ∧ _ => l2
  rw [lit_empty] at N6
  refine ⟨GInv w.params r _ _ _ _ _ kp (ln + st.count 10) (tok, rest) run0 _, st.length, GInv.start F6 N6 (tok := []) hg hlf hl h8 (by simpa using hl) rfl rfl (congrArg (fun z => some (Value.str z _)) lit_empty) rfl, ?_⟩
  clear N6 F6
  rintro n z ⟨h1, tk1, st1, tok1, tkk1, ln1, tl1, lf1, kl1, m1, rfl, rfl, hrun1, hlf1, hl1, h81, hz1, hln1, F2, N2, hs, ht, hf⟩
  dsimp only [rdr, List.cons_append, List.nil_append] at N2
  unfold run0 at hrun1
  split at hrun1
  · rename_i htok; subst htok
    k_dflt (refine' CS (by assumption) (by omega) (by assumption) ?kB F2 ?kX ?kT ?kk ?kr ?ku ?kC N2 l1.1 l2.1 ?hnil ?hcons)
    case kB => assumption
    case kX => assumption
    case kT => assumption
    case kk => rfl
    case kr => ktr_room
    case ku => ktr_units
    case kC => assumption
    case hnil =>
      intro e h3 tk3 F3 N3
      subst e
      cases hrun1
      dsimp only [TurnK]
      k_steps
      exact hret _ _ _ _ (by assumption) (by assumption) (mc_kept (by assumption) (by assumption)) ⟨_, _, _, _, _, rfl, rfl, hlf1, hln1⟩
    case hcons =>
      intro hne h3 tk3 tl3 us tc hus F3 N3
      cases st1 with
      | nil => exact absurd rfl hne
      | cons c st2 =>
        dsimp only [List.headD_cons, List.tail_cons] at hus N3
        dsimp only [List.headD_cons]
        rw [List.count_cons] at hln1
        rw [List.length_cons] at hl1 hz1
        have h82 : st2.all (· < 0x110000) = true := by
          rw [List.all_cons, Bool.and_eq_true] at h81; exact h81.2
        have hln2 : (ln1 + if c = 10 then 1 else 0) + (st2.count 10 : Nat) = ln + (st.count 10 : Nat) := by
          by_cases hc : c = 10 <;> simp [hc] at hln1 ⊢ <;> omega
        refine ⟨m1, F3, fun h4 F4 N4 => ?_⟩
        have N5 := N4 _ N3
        clear N4 N3 F3 N2 F2
        k_steps
        · refine' ⟨_, ?_, GInv.intro (P := w.params) (r := r) (tok := []) ?_ hus ?_ h82 ?_ hln2 (by assumption) (by assumption) (by walk_at "S_look") (by walk_at "S_look") (by walk_at "S_look")⟩
          · walk_at "S_nn"
          · (rename isWs c = true => hw); rw [g_ws hw] at hrun1; rw [run0, if_pos rfl]; exact hrun1
          · walk_at "S_nn"
          · walk_at "S_nn"
        · rename isWs c = false => hw
          rename (S [c] == PySem.Str.ofString "\"") = true => hq
          rw [quote_iff] at hq
          replace hq := of_decide_eq_true hq
          rename News _ _ _ _ => N6
          rename Fr _ _ _ _ => F6
          subst hq
          have hr : qrun st2 [] = some (tok, rest) := by
            rw [g_quote] at hrun1; exact hrun1
          refine ⟨GInv w.params r _ _ _ _ _ kp (ln + st.count 10) (tok, rest) qrun _, st2.length, GInv.start F6 N6 (tok := []) hr hus (by walk_at "S_nn") h82 (by walk_at "S_nn") hln2 (by walk_at "S_look") (by walk_at "S_look") (by walk_at "S_look"), ?_⟩
          clear N6 F6 hrun1 hus
          rintro n z ⟨h1, tk1, st1, tok1, tkk1, ln1, tl1, lf1, kl1, m1, rfl, rfl, hrun1, hlf1, hl1, h81, hz1, hln1, F2, N2, hs, ht, hf⟩
          dsimp only [rdr, List.cons_append, List.nil_append] at N2
          k_dflt (refine' CS (by assumption) (by omega) (by assumption) ?kB F2 ?kX ?kT ?kk ?kr ?ku ?kC N2 l1.1 l2.1 ?hnil ?hcons)
          case kB => assumption
          case kX => assumption
          case kT => assumption
          case kk => rfl
          case kr => ktr_room
          case ku => ktr_units
          case kC => assumption
          case hnil =>
            intro e
            subst e
            cases hrun1
          case hcons =>
            intro hne h3 tk3 tl3 us tc hus F3 N3
            cases st1 with
            | nil => exact absurd rfl hne
            | cons c st2 =>
              dsimp only [List.headD_cons, List.tail_cons] at hus N3
              dsimp only [List.headD_cons]
              rw [List.count_cons] at hln1
              rw [List.length_cons] at hl1 hz1
              have h82 : st2.all (· < 0x110000) = true := by
                rw [List.all_cons, Bool.and_eq_true] at h81; exact h81.2
              have hln2 : (ln1 + if c = 10 then 1 else 0) + (st2.count 10 : Nat) = ln + (st.count 10 : Nat) := by
                by_cases hc : c = 10 <;> simp [hc] at hln1 ⊢ <;> omega
              refine ⟨m1, F3, fun h4 F4 N4 => ?_⟩
              have N5 := N4 _ N3
              clear N4 N3 F3 N2 F2
              k_steps
              · rename (S [c] == PySem.Str.ofString "\"") = true => hq
                rw [quote_iff] at hq
                replace hq := of_decide_eq_true hq
                subst hq
                have e : some (tok1, st2) = some (tok, rest) := by rw [q_quote] at hrun1; exact hrun1
                cases e
                rename News _ _ _ _ => N9
                have N9 := news_tail (news_tail N9)
                exact hret _ _ _ _ (by assumption) N9 (mc_kept (by assumption) (by assumption)) ⟨_, _, _, _, _, rfl, rfl, hus, hln2⟩
              · rename (S [c] == PySem.Str.ofString "\"") = false => hq
                rw [quote_iff] at hq
                replace hq := of_decide_eq_false hq
                rename (S [c] == PySem.Str.ofString "\\") = true => hb
                rw [back_iff] at hb
                replace hb := of_decide_eq_true hb
                cases st2 with
                | nil => (rw [hb] at hrun1); first | (rw [q_back0] at hrun1; cases hrun1) | (rw [p_back0] at hrun1; cases hrun1) | (rw [g_back0] at hrun1; cases hrun1)
                | cons d st3 =>
                  rename News _ _ _ _ => N6
                  rename Fr _ _ _ _ => F6
                  have hr3 : qrun st3 (tok1 ++ [d]) = some (tok, rest) := by rw [hb, q_back] at hrun1; exact hrun1
                  refine Stop9.go (wpAny_call ?_)
                  k_dflt (refine' RC2 (own := [_, _]) hus ?hl h82 (by simp) ?kB F6 ?kX ?kT ?kk ?kr ?ku ?kC N6 ?ho ?hgo)
                  case kB => assumption
                  case kX => assumption
                  case kT => assumption
                  case kk => rfl
                  case kr => ktr_room
                  case ku => ktr_units
                  case kC => assumption
                  case hl => walk_at "S_nn"
                  case ho =>
                    intro p hp
                    simp only [List.mem_cons, List.not_mem_nil, or_false] at hp
                    rcases hp with rfl | rfl
                    · exact Nat.lt_trans l1.1 l2.1
                    · exact l1.1
                  case hgo =>
                    intro h5 tk5 tl5 us5 tc5 hus5 F7 N7
                    dsimp only [List.headD_cons, List.tail_cons, List.cons_append, List.nil_append] at hus5 N7
                    dsimp only [List.headD_cons]
                    rw [List.count_cons] at hln2
                    simp only [List.length_cons] at hl1 hz1
                    have h83 : st3.all (· < 0x110000) = true := by
                      rw [List.all_cons, Bool.and_eq_true] at h82; exact h82.2
                    have hln3 : ((ln1 + if c = 10 then 1 else 0) + if d = 10 then 1 else 0) + (st3.count 10 : Nat) = ln + (st.count 10 : Nat) := by
                      by_cases hc : d = 10 <;> simp [hc] at hln2 ⊢ <;> omega
                    clear N6 F6
                    k_steps
                    · refine' ⟨_, ?_, GInv.intro (P := w.params) (r := r) (tok := (tok1 ++ [d])) ?_ hus5 ?_ h83 ?_ hln3 (by assumption) (by assumption) (by walk_at "S_look") (by walk_at "S_look") (by walk_at "S_look")⟩
                      · walk_at "S_nn"
                      · exact hr3
                      · walk_at "S_nn"
                      · walk_at "S_nn"
              · rename (S [c] == PySem.Str.ofString "\"") = false => hq
                rw [quote_iff] at hq
                replace hq := of_decide_eq_false hq
                rename (S [c] == PySem.Str.ofString "\\") = false => hb
                rw [back_iff] at hb
                replace hb := of_decide_eq_false hb
                refine' ⟨_, ?_, GInv.intro (P := w.params) (r := r) (tok := (tok1 ++ [c])) ?_ hus ?_ h82 ?_ hln2 (by assumption) (by assumption) (by walk_at "S_look") (by walk_at "S_look") (by walk_at "S_look")⟩
                · walk_at "S_nn"
                · rw [q_plain hq hb] at hrun1; exact hrun1
                · walk_at "S_nn"
                · walk_at "S_nn"
        · rename isWs c = false => hw
          rename (S [c] == PySem.Str.ofString "\"") = false => hq
          rw [quote_iff] at hq
          replace hq := of_decide_eq_false hq
          rename (S [c] == PySem.Str.ofString "\\") = true => hb
          rw [back_iff] at hb
          replace hb := of_decide_eq_true hb
          cases st2 with
          | nil => (rw [hb] at hrun1); first | (rw [q_back0] at hrun1; cases hrun1) | (rw [p_back0] at hrun1; cases hrun1) | (rw [g_back0] at hrun1; cases hrun1)
          | cons d st3 =>
            rename News _ _ _ _ => N6
            rename Fr _ _ _ _ => F6
            have hr3 : prun st3 [d] = some (tok, rest) := by
              rw [hb, g_back] at hrun1; exact hrun1
            refine Stop9.go (wpAny_call ?_)
            k_dflt (refine' RC2 (own := [_, _]) hus ?hl h82 (by simp) ?kB F6 ?kX ?kT ?kk ?kr ?ku ?kC N6 ?ho ?hgo)
            case kB => assumption
            case kX => assumption
            case kT => assumption
            case kk => rfl
            case kr => ktr_room
            case ku => ktr_units
            case kC => assumption
            case hl => walk_at "S_nn"
            case ho =>
              intro p hp
              simp only [List.mem_cons, List.not_mem_nil, or_false] at hp
              rcases hp with rfl | rfl
              · exact Nat.lt_trans l1.1 l2.1
              · exact l1.1
            case hgo =>
              intro h5 tk5 tl5 us5 tc5 hus5 F7 N7
              dsimp only [List.headD_cons, List.tail_cons, List.cons_append, List.nil_append] at hus5 N7
              dsimp only [List.headD_cons]
              rw [List.count_cons] at hln2
              simp only [List.length_cons] at hl1 hz1
              have h83 : st3.all (· < 0x110000) = true := by
                rw [List.all_cons, Bool.and_eq_true] at h82; exact h82.2
              have hln3 : ((ln1 + if c = 10 then 1 else 0) + if d = 10 then 1 else 0) + (st3.count 10 : Nat) = ln + (st.count 10 : Nat) := by
                by_cases hc : d = 10 <;> simp [hc] at hln2 ⊢ <;> omega
              clear N6 F6
              k_steps
              rename News _ _ _ _ => N6
              rename Fr _ _ _ _ => F6
              refine ⟨GInv w.params r _ _ _ _ _ kp (ln + st.count 10) (tok, rest) prun _, st3.length, GInv.start F6 N6 (tok := [d]) hr3 hus5 (by walk_at "S_nn") h83 (by walk_at "S_nn") hln3 (by walk_at "S_look") (by walk_at "S_look") (by walk_at "S_look"), ?_⟩
              clear N6 F6 hrun1 hus hus5
              rintro n z ⟨h1, tk1, st1, tok1, tkk1, ln1, tl1, lf1, kl1, m1, rfl, rfl, hrun1, hlf1, hl1, h81, hz1, hln1, F2, N2, hs, ht, hf⟩
              dsimp only [rdr, List.cons_append, List.nil_append] at N2
              k_dflt (refine' CS (by assumption) (by omega) (by assumption) ?kB F2 ?kX ?kT ?kk ?kr ?ku ?kC N2 l1.1 l2.1 ?hnil ?hcons)
              case kB => assumption
              case kX => assumption
              case kT => assumption
              case kk => rfl
              case kr => ktr_room
              case ku => ktr_units
              case kC => assumption
              case hnil =>
                intro e
                subst e
                cases hrun1
              case hcons =>
                intro hne h3 tk3 tl3 us tc hus F3 N3
                cases st1 with
                | nil => exact absurd rfl hne
                | cons c st2 =>
                  dsimp only [List.headD_cons, List.tail_cons] at hus N3
                  dsimp only [List.headD_cons]
                  rw [List.count_cons] at hln1
                  rw [List.length_cons] at hl1 hz1
                  have h82 : st2.all (· < 0x110000) = true := by
                    rw [List.all_cons, Bool.and_eq_true] at h81; exact h81.2
                  have hln2 : (ln1 + if c = 10 then 1 else 0) + (st2.count 10 : Nat) = ln + (st.count 10 : Nat) := by
                    by_cases hc : c = 10 <;> simp [hc] at hln1 ⊢ <;> omega
                  refine ⟨m1, F3, fun h4 F4 N4 => ?_⟩
                  have N5 := N4 _ N3
                  clear N4 N3 F3 N2 F2
                  k_steps
                  · rename isWs c = true => hw
                    have e : some (tok1, st2) = some (tok, rest) := by rw [p_ws hw] at hrun1; exact hrun1
                    cases e
                    rename News _ _ _ _ => N9
                    have N9 := news_tail (news_tail N9)
                    exact hret _ _ _ _ (by assumption) N9 (mc_kept (by assumption) (by assumption)) ⟨_, _, _, _, _, rfl, rfl, hus, hln2⟩
                  · rename isWs c = false => hw
                    rename (S [c] == PySem.Str.ofString "\\") = true => hb
                    rw [back_iff] at hb
                    replace hb := of_decide_eq_true hb
                    cases st2 with
                    | nil => (rw [hb] at hrun1); first | (rw [q_back0] at hrun1; cases hrun1) | (rw [p_back0] at hrun1; cases hrun1) | (rw [g_back0] at hrun1; cases hrun1)
                    | cons d st3 =>
                      rename News _ _ _ _ => N6
                      rename Fr _ _ _ _ => F6
                      have hr3 : prun st3 (tok1 ++ [d]) = some (tok, rest) := by rw [hb, p_back] at hrun1; exact hrun1
                      refine Stop9.go (wpAny_call ?_)
                      k_dflt (refine' RC2 (own := [_, _]) hus ?hl h82 (by simp) ?kB F6 ?kX ?kT ?kk ?kr ?ku ?kC N6 ?ho ?hgo)
                      case kB => assumption
                      case kX => assumption
                      case kT => assumption
                      case kk => rfl
                      case kr => ktr_room
                      case ku => ktr_units
                      case kC => assumption
                      case hl => walk_at "S_nn"
                      case ho =>
                        intro p hp
                        simp only [List.mem_cons, List.not_mem_nil, or_false] at hp
                        rcases hp with rfl | rfl
                        · exact Nat.lt_trans l1.1 l2.1
                        · exact l1.1
                      case hgo =>
                        intro h5 tk5 tl5 us5 tc5 hus5 F7 N7
                        dsimp only [List.headD_cons, List.tail_cons, List.cons_append, List.nil_append] at hus5 N7
                        dsimp only [List.headD_cons]
                        rw [List.count_cons] at hln2
                        simp only [List.length_cons] at hl1 hz1
                        have h83 : st3.all (· < 0x110000) = true := by
                          rw [List.all_cons, Bool.and_eq_true] at h82; exact h82.2
                        have hln3 : ((ln1 + if c = 10 then 1 else 0) + if d = 10 then 1 else 0) + (st3.count 10 : Nat) = ln + (st.count 10 : Nat) := by
                          by_cases hc : d = 10 <;> simp [hc] at hln2 ⊢ <;> omega
                        clear N6 F6
                        k_steps
                        · refine' ⟨_, ?_, GInv.intro (P := w.params) (r := r) (tok := (tok1 ++ [d])) ?_ hus5 ?_ h83 ?_ hln3 (by assumption) (by assumption) (by walk_at "S_look") (by walk_at "S_look") (by walk_at "S_look")⟩
                          · walk_at "S_nn"
                          · exact hr3
                          · walk_at "S_nn"
                          · walk_at "S_nn"
                  · rename isWs c = false => hw
                    rename (S [c] == PySem.Str.ofString "\\") = false => hb
                    rw [back_iff] at hb
                    replace hb := of_decide_eq_false hb
                    refine' ⟨_, ?_, GInv.intro (P := w.params) (r := r) (tok := (tok1 ++ [c])) ?_ hus ?_ h82 ?_ hln2 (by assumption) (by assumption) (by walk_at "S_look") (by walk_at "S_look") (by walk_at "S_look")⟩
                    · walk_at "S_nn"
                    · rw [p_plain hw hb] at hrun1; exact hrun1
                    · walk_at "S_nn"
                    · walk_at "S_nn"
        · rename isWs c = false => hw
          rename (S [c] == PySem.Str.ofString "\"") = false => hq
          rw [quote_iff] at hq
          replace hq := of_decide_eq_false hq
          rename (S [c] == PySem.Str.ofString "\\") = false => hb
          rw [back_iff] at hb
          replace hb := of_decide_eq_false hb
          rename News _ _ _ _ => N6
          rename Fr _ _ _ _ => F6
          have hr : prun st2 [c] = some (tok, rest) := by
            rw [g_plain hw hq hb] at hrun1; exact hrun1
          refine ⟨GInv w.params r _ _ _ _ _ kp (ln + st.count 10) (tok, rest) prun _, st2.length, GInv.start F6 N6 (tok := [c]) hr hus (by walk_at "S_nn") h82 (by walk_at "S_nn") hln2 (by walk_at "S_look") (by walk_at "S_look") (by walk_at "S_look"), ?_⟩
          clear N6 F6 hrun1 hus
          rintro n z ⟨h1, tk1, st1, tok1, tkk1, ln1, tl1, lf1, kl1, m1, rfl, rfl, hrun1, hlf1, hl1, h81, hz1, hln1, F2, N2, hs, ht, hf⟩
          dsimp only [rdr, List.cons_append, List.nil_append] at N2
          k_dflt (refine' CS (by assumption) (by omega) (by assumption) ?kB F2 ?kX ?kT ?kk ?kr ?ku ?kC N2 l1.1 l2.1 ?hnil ?hcons)
          case kB => assumption
          case kX => assumption
          case kT => assumption
          case kk => rfl
          case kr => ktr_room
          case ku => ktr_units
          case kC => assumption
          case hnil =>
            intro e
            subst e
            cases hrun1
          case hcons =>
            intro hne h3 tk3 tl3 us tc hus F3 N3
            cases st1 with
            | nil => exact absurd rfl hne
            | cons c st2 =>
              dsimp only [List.headD_cons, List.tail_cons] at hus N3
              dsimp only [List.headD_cons]
              rw [List.count_cons] at hln1
              rw [List.length_cons] at hl1 hz1
              have h82 : st2.all (· < 0x110000) = true := by
                rw [List.all_cons, Bool.and_eq_true] at h81; exact h81.2
              have hln2 : (ln1 + if c = 10 then 1 else 0) + (st2.count 10 : Nat) = ln + (st.count 10 : Nat) := by
                by_cases hc : c = 10 <;> simp [hc] at hln1 ⊢ <;> omega
              refine ⟨m1, F3, fun h4 F4 N4 => ?_⟩
              have N5 := N4 _ N3
              clear N4 N3 F3 N2 F2
              k_steps
              · rename isWs c = true => hw
                have e : some (tok1, st2) = some (tok, rest) := by rw [p_ws hw] at hrun1; exact hrun1
                cases e
                rename News _ _ _ _ => N9
                have N9 := news_tail (news_tail N9)
                exact hret _ _ _ _ (by assumption) N9 (mc_kept (by assumption) (by assumption)) ⟨_, _, _, _, _, rfl, rfl, hus, hln2⟩
              · rename isWs c = false => hw
                rename (S [c] == PySem.Str.ofString "\\") = true => hb
                rw [back_iff] at hb
                replace hb := of_decide_eq_true hb
                cases st2 with
                | nil => (rw [hb] at hrun1); first | (rw [q_back0] at hrun1; cases hrun1) | (rw [p_back0] at hrun1; cases hrun1) | (rw [g_back0] at hrun1; cases hrun1)
                | cons d st3 =>
                  rename News _ _ _ _ => N6
                  rename Fr _ _ _ _ => F6
                  have hr3 : prun st3 (tok1 ++ [d]) = some (tok, rest) := by rw [hb, p_back] at hrun1; exact hrun1
                  refine Stop9.go (wpAny_call ?_)
                  k_dflt (refine' RC2 (own := [_, _]) hus ?hl h82 (by simp) ?kB F6 ?kX ?kT ?kk ?kr ?ku ?kC N6 ?ho ?hgo)
                  case kB => assumption
                  case kX => assumption
                  case kT => assumption
                  case kk => rfl
                  case kr => ktr_room
                  case ku => ktr_units
                  case kC => assumption
                  case hl => walk_at "S_nn"
                  case ho =>
                    intro p hp
                    simp only [List.mem_cons, List.not_mem_nil, or_false] at hp
                    rcases hp with rfl | rfl
                    · exact Nat.lt_trans l1.1 l2.1
                    · exact l1.1
                  case hgo =>
                    intro h5 tk5 tl5 us5 tc5 hus5 F7 N7
                    dsimp only [List.headD_cons, List.tail_cons, List.cons_append, List.nil_append] at hus5 N7
                    dsimp only [List.headD_cons]
                    rw [List.count_cons] at hln2
                    simp only [List.length_cons] at hl1 hz1
                    have h83 : st3.all (· < 0x110000) = true := by
                      rw [List.all_cons, Bool.and_eq_true] at h82; exact h82.2
                    have hln3 : ((ln1 + if c = 10 then 1 else 0) + if d = 10 then 1 else 0) + (st3.count 10 : Nat) = ln + (st.count 10 : Nat) := by
                      by_cases hc : d = 10 <;> simp [hc] at hln2 ⊢ <;> omega
                    clear N6 F6
                    k_steps
                    · refine' ⟨_, ?_, GInv.intro (P := w.params) (r := r) (tok := (tok1 ++ [d])) ?_ hus5 ?_ h83 ?_ hln3 (by assumption) (by assumption) (by walk_at "S_look") (by walk_at "S_look") (by walk_at "S_look")⟩
                      · walk_at "S_nn"
                      · exact hr3
                      · walk_at "S_nn"
                      · walk_at "S_nn"
              · rename isWs c = false => hw
                rename (S [c] == PySem.Str.ofString "\\") = false => hb
                rw [back_iff] at hb
                replace hb := of_decide_eq_false hb
                refine' ⟨_, ?_, GInv.intro (P := w.params) (r := r) (tok := (tok1 ++ [c])) ?_ hus ?_ h82 ?_ hln2 (by assumption) (by assumption) (by walk_at "S_look") (by walk_at "S_look") (by walk_at "S_look")⟩
                · walk_at "S_nn"
                · rw [p_plain hw hb] at hrun1; exact hrun1
                · walk_at "S_nn"
                · walk_at "S_nn"
  · cases hrun1
end
section
local macro_rules | `(tactic| walk_at "zz0") => `(tactic| fail)
local macro_rules | `(tactic| walk_at "zz1") => `(tactic| fail)
local macro_rules | `(tactic| walk_at "zz2") => `(tactic| fail)
example : True := by
  k_with_none
  w_top off
  k_with "olt" => (first | assumption | ((fail_if_success refine oM ?_); refine oL ?_; k_extra "ole") | k_extra "olh")
  k_with "olh" => (refine oH (by assumption) (by k_extra "ole"))
  k_with "ole" => (first | exact Nat.le_refl _ | assumption | exact oB | ((first | refine oA ?_ | refine oA2 ?_ | refine oA3 ?_); k_extra "ocl") | (refine oS ?_; k_extra "ole") | (refine Nat.le_of_lt ?_; (first | assumption | k_extra "olh")) | exact oE)
  k_with "olt2" => (first | k_extra "oas" | ((fail_if_success refine oM ?_); refine oL ?_; k_extra "ole2") | k_extra "olh2")
  k_with "olh2" => (refine oH (by k_extra "oas") (by k_extra "ole2"))
  k_with "ole2" => (first | exact Nat.le_refl _ | k_extra "oas" | exact oB | ((first | refine oA ?_ | refine oA2 ?_ | refine oA3 ?_); k_extra "ocl") | (refine oS ?_; k_extra "ole2") | (refine Nat.le_of_lt ?_; (first | k_extra "oas" | k_extra "olh2")) | exact oE)
  k_with "opu" => (first | exact oB | exact Nat.le_refl _ | (refine oS ?_; k_extra "opu"))
  k_with "olt0" => (refine oL ?_; k_extra "opu")
  k_with "one" => (first | (refine Nat.ne_of_gt ?_; (fail_if_success refine oM ?_); k_extra "olt0") | (refine Nat.ne_of_lt ?_; (fail_if_success refine oM ?_); k_extra "olt0") | exact Ne.symm (by assumption) | (refine Nat.ne_of_gt ?_; (fail_if_success refine oM ?_); k_extra "oas") | (refine Nat.ne_of_lt ?_; (fail_if_success refine oM ?_); k_extra "oas") | (refine Nat.ne_of_gt ?_; (fail_if_success refine oM ?_); k_extra "odd") | (refine Nat.ne_of_lt ?_; (fail_if_success refine oM ?_); k_extra "odd") | (refine Nat.ne_of_gt ?_; (fail_if_success refine oM ?_); k_extra "olt") | (refine Nat.ne_of_lt ?_; (fail_if_success refine oM ?_); k_extra "olt") | (refine Nat.ne_of_gt ?_; (fail_if_success refine oM ?_); k_extra "olt2") | (refine Nat.ne_of_lt ?_; (fail_if_success refine oM ?_); k_extra "olt2") | decide)
  k_with "ol1" => (first | ((fail_if_success refine oM ?_); first | k_extra "oas" | k_extra "olt0" | k_extra "odd" | k_extra "olt" | k_extra "olt2") | k_extra "ocl" | exact oT0 | exact oT5)
  k_with "oe1" => (first | ((fail_if_success refine oN ?_); first | k_extra "oas" | k_extra "opu" | k_extra "ole" | k_extra "ole2" | exact oE (by k_extra "oas")) | k_extra "ocl" | k_extra "olit" | k_extra "oas")
  k_with "olit" => (first | exact oT4 | exact oP | exact oP2 | exact oT1 | exact oT2 | exact oT3 | exact oQ5 | exact oQ1 | exact oQ2 | exact oQ3 | exact oQ4 | exact oQ6 | exact oD)
  k_with "ocl" => (with_unfolding_all exact Nat.le_of_ble_eq_true rfl)
  k_with "oas" => (first | assumption | exact oa1 | exact ob1 | exact oa2 | exact ob2 | exact oa3 | exact ob3 | exact oa4 | exact ob4 | exact oa5 | exact ob5 | exact oa6 | exact ob6 | exact oa7 | exact ob7)
  k_with "odd" => (first | exact oa1 ob7 | exact oa2 ob7 | exact oa3 ob7 | exact oa4 ob7 | exact oa5 ob7 | exact oa6 ob7 | exact oa7 ob7 | exact oa1 (ob7 ob7) | exact oa2 (ob7 ob7) | exact oa3 (ob7 ob7) | exact oa4 (ob7 ob7) | exact oa5 (ob7 ob7) | exact oa6 (ob7 ob7) | exact oa7 (ob7 ob7) | exact ob1 ob7 | exact ob2 ob7 | exact ob3 ob7 | exact ob4 ob7 | exact ob5 ob7 | exact ob6 ob7 | exact ob7 ob7)
  k_with "oin" => (first | decide | exact oI1 | exact oI3 | exact oI2 (by k_extra "oas"))
  k_with "om" => (with_reducible first | (first | assumption | ((fail_if_success fail_if_success refine oXn ?_); k_extra "one") | ((fail_if_success fail_if_success refine oXl ?_); k_extra "ol1") | ((fail_if_success fail_if_success refine oXe ?_); k_extra "oe1") | k_extra "oin") | fail)
  k_with "S_fit" => (first | omega | ((simp only [S_len, List.length_append, List.length_cons, List.length_nil, List.length_take, List.length_drop, dots, PySem.sizeLine_eq]); omega))
  k_with "call builtin:len" => (((with_reducible show wpAny _ _ (call (Value.builtin "len") [Value.str (S _) _]) _ _ _); refine r_len (by walk_at "S_fit") ?_))
  k_with "call builtin:str.startswith" => (((with_reducible show wpAny _ _ (call (Value.builtin "str.startswith") [Value.str (S _) _, Value.str (S _) _]) _ _ _); refine r_starts ?_))
  k_with "call builtin:str.endswith" => (((with_reducible show wpAny _ _ (call (Value.builtin "str.endswith") [Value.str (S _) _, Value.str (S _) _]) _ _ _); refine r_ends ?_))
  k_with "truthy str" => (((with_reducible show wpAny _ _ (truthy (Value.str (S _) _)) _ _ _); refine r_truthy (by walk_at "S_fit") ?_))
  k_with "exec For Name Name cons nil" => ((k_here; (rename Fr _ _ _ _ => Z6Xa); (with_unfolding_all refine' For_invVF Z6Xa ?Q6Xa ?Q6Xb ?_; (case Q6Xa => exact rfl); (case Q6Xb => exact rfl); k_whole)))
  k_with "pyIter ref" => (((with_reducible show wpAny _ _ (pyIter (Value.ref _)) (fun it s₂ => LoopAtV _ _ _ _ _ _ _ _ _ it s₂) _ _); k_listUnr))
  k_with "S_enter" => ((refine' code_defG (news := []) ?Q8Xa ?Q8Xb ?Q8Xc ?Q8Xd ?Q8Xe ?Q8Xf ?Q8Xg ?Q8Xh ?Q8Xi ?Q8Xj ?Q8Xk ?Q8Xl ?Q8Xm ?_ ?Q8Xn ?Q8Xo ?Q8Xp ?Q8Xq; (case Q8Xf => exact rfl); (case Q8Xg => exact rfl); (case Q8Xh => assumption); (case Q8Xa => k_asm); (case Q8Xb => k_asm); (case Q8Xc => k_asm); (case Q8Xd => exact News.nil); (case Q8Xe => k_asm); (case Q8Xi => k_is); (case Q8Xj => k_is); (case Q8Xk => ktr_room); (case Q8Xl => exact BindsTo.of_eq rfl); (case Q8Xq => decide); (case Q8Xm => exact locs rfl); (case Q8Xn => exact rfl); (case Q8Xo => exact rfl); (case Q8Xp => exact rfl); k_whole; intro Z8Xh Z8Xd Z8Xi Z8Xc Z8Xb Z8Xe Z8Xa Z8Xg Z8Xf Z8Xj; (try dsimp only [List.map_nil] at Z8Xj); (try dsimp only); (try k_lift Z8Xa); (try k_fold)))
  k_with "S_look" => (first | exact rfl | assumption | exact (if_pos rfl) | (refine (if_neg (by decide)).trans ?_; walk_at "S_look"))
  k_with "eval Name" => ((k_here; k_dflt (refine' nameX_L ?QaXa ?QaXb ?_ ?QaXc ?QaXd; (case QaXa => k_asm); (case QaXc => rfl); (case QaXd => rfl); (case QaXb => walk_at "S_look"); k_whole)))
  k_with "S_lit" => (first | (with_reducible exact lit_dots) | (with_reducible rfl))
  k_with "S_nn" => (first | omega | ((simp only [List.length_append, List.length_cons, List.length_nil, List.length_take, List.length_drop, dots] at *); omega))
  k_with "binaryOp Add str str" => (((with_reducible show wpAny _ _ (binaryOp _ (Value.str _ _) (Value.str _ _)) _ _ _); k_dflt (refine r_add (by walk_at "S_lit") (by walk_at "S_lit") (by walk_at "S_fit") ?_); intro _ _))
  k_with "subscriptTail Name Slice str ref" => (((with_reducible show wpAny _ _ (subscriptTail _ (Expr.Slice none (some _) none _) (Value.str (S _) _) _) _ _ _); (with_reducible rename Fr _ _ _ _ => ZeXa); (with_reducible rename News _ _ _ _ => ZeXb); (refine r_sliceTo (s := ⟨_, _, _, _, _⟩) ZeXa ZeXb (by walk_at "S_nn") (by walk_at "S_fit") ?_); intro _ _ _ _ _))
  k_with "subscriptTail Name Slice str ref" => (((with_reducible show wpAny _ _ (subscriptTail _ (Expr.Slice (some _) none none _) (Value.str (S _) _) _) _ _ _); (with_reducible rename Fr _ _ _ _ => ZfXa); (with_reducible rename News _ _ _ _ => ZfXb); (refine r_sliceFrom (s := ⟨_, _, _, _, _⟩) ZfXa ZfXb (by walk_at "S_nn") (by walk_at "S_fit") ?_); intro _ _ _ _ _))
  k_with "exec For Name Call cons nil" => ((k_here; (rename Fr _ _ _ _ => ZgXa); (with_unfolding_all refine' For_invVF ZgXa ?QgXa ?QgXb ?_; (case QgXa => exact rfl); (case QgXb => exact rfl); k_whole)))
  k_with "S_use" => ((refine' pcon_use ?QhXa ?QhXb ?QhXc ?QhXd ?QhXe ?QhXf ?QhXg ?QhXh ?_; (case QhXb => k_asm); (case QhXc => k_asm); (case QhXd => k_asm); (case QhXe => k_asm); (case QhXa => walk_at "S_con"); (case QhXf => first | exact rfl | assumption); (case QhXg => ktr_room); (case QhXh => ktr_units)))
  k_with "call ref" => ((k_here; k_dflt (walk_at "S_use"); intro ZiXf ZiXd ZiXe ZiXb; (have ZiXa := Fr.keeps (by k_asm) ZiXb); (have ZiXc := News.grown (by k_asm) ZiXb); walk_at "S_back" <;> ((try dsimp only); (try k_fold))))
  k_with "pyIter ref" => (k_extra "S_loop")
  k_with "S_bool" => ((intro ZkXa; (rcases bool_or ZkXa with ⟨R8, R7⟩ | ⟨R8, R7⟩) <;> subst R7))
  k_with "call builtin:list.append" => ((k_here; (with_reducible show wpAny _ _ (call (Value.builtin _) [Value.ref _, _]) _ _ _); k_dflt (refine' append_K ?QlXa ?QlXb ?QlXc ?_ ?QlXd; (case QlXa => k_asm); (case QlXb => k_asm); (case QlXc => k_upd); (case QlXd => exact size_ok (k := 100000) (by omega) (by decide)); k_whole); intro ZlXc ZlXa ZlXb; (try k_sweep)))
  k_with "m_k_room" => (ktr_room)
  k_with "m_k_units" => (ktr_units)
  k_with "S_enterM" => ((refine' code_defG ?QoXa ?QoXb ?QoXc ?QoXd ?QoXe ?QoXf ?QoXg ?QoXh ?QoXi ?QoXj ?QoXk ?QoXl ?QoXm ?_ ?QoXn ?QoXo ?QoXp ?QoXq; (case QoXf => exact rfl); (case QoXg => exact rfl); (case QoXh => assumption); (case QoXa => k_asm); (case QoXb => k_asm); (case QoXc => k_asm); (case QoXd => k_asm); (case QoXe => k_asm); (case QoXi => k_is); (case QoXj => k_is); (case QoXk => ktr_room); (case QoXl => exact BindsTo.of_eq rfl); (case QoXq => decide); (case QoXm => exact locs rfl); (case QoXn => exact rfl); (case QoXo => exact rfl); (case QoXp => exact rfl); k_whole; intro ZoXh ZoXd ZoXi ZoXc ZoXb ZoXe ZoXa ZoXg ZoXf ZoXj; (try dsimp only [List.map_nil, List.map_cons] at ZoXj); (try dsimp only); (try k_lift ZoXa); (try k_fold)))
  k_with "callWith" => (((with_reducible show wpAny _ _ (callWith _ (Prod.fst _) (Prod.snd _) _ _) _ _ _); dsimp only))
  k_with "S_int" => (first | omega | decide | ((simp only [List.length_cons, List.length_nil, decide_eq_true_eq, decide_eq_false_iff_not, beq_iff_eq, beq_eq_false_iff_ne, ne_eq, Int.not_lt, Int.not_le] at *); omega))
  k_with "binaryOp FloorDiv int int" => (((with_reducible show wpAny _ _ (binaryOp _ (Value.int _ _) (Value.int _ _)) _ _ _); k_dflt (refine r_fdiv (by walk_at "S_int") (by walk_at "S_int") ?_); intro _ _))
  k_with "binaryOp Mod int int" => (((with_reducible show wpAny _ _ (binaryOp _ (Value.int _ _) (Value.int _ _)) _ _ _); k_dflt (refine r_fmod (by walk_at "S_int") ?_); intro _ _))
  k_with "S_item" => (((with_reducible show wpAny _ _ (subscriptTail _ _ (Value.str (S _) _) (Value.int _ _)) _ _ _); k_dflt (refine r_item (by walk_at "S_int") (by walk_at "S_int") (by walk_at "S_fit") ?_); intro _ _))
  k_with "subscriptTail Name BinOp str int" => (walk_at "S_item")
  k_with "subscriptTail Name Constant str int" => (walk_at "S_item")
  k_with "subscriptTail Name Name str int" => (walk_at "S_item")
  k_with "S_lit" => (first | (with_reducible exact lit_dots) | (with_reducible exact lit_empty) | (with_reducible exact lit34) | (with_reducible exact lit9234) | (with_reducible exact lit92) | (with_reducible exact lit10) | (with_reducible exact lit38) | (with_reducible exact lit59) | (with_reducible rfl))
  k_with "call builtin:str.replace" => (((with_reducible show wpAny _ _ (call (Value.builtin _) [Value.str (S _) _, Value.str _ _, Value.str _ _]) _ _ _); k_dflt (refine r_replace (by walk_at "S_lit") (by walk_at "S_lit") (by decide) (Nat.succ_ne_zero _) (Nat.succ_ne_zero _) (Nat.ne_of_lt (Nat.lt_succ_self _)) (by decide) (by walk_at "S_nn") ?_); intro _ _))
  k_with "call builtin:str.join" => ((k_here; (with_reducible show wpAny _ _ (call (Value.builtin _) [Value.str _ _, Value.ref _]) _ _ _); k_dflt (refine r_join (by walk_at "S_lit") (by walk_at "S_isl") (by walk_at "S_strs") (by walk_at "S_sum") ?_); intro _ _))
  k_with "S_isl" => (first | assumption | exact ⟨LCg.lst _, News.get (by k_asm) (by k_mem), rfl, _, rfl⟩ | is_list)
  k_with "S_strs" => (first | exact StrsAre.nil | assumption | (exact CharsAre.strs (by assumption)))
  k_with "binaryOp Mult str int" => (((with_reducible show wpAny _ _ (binaryOp _ (Value.str (S _) _) (Value.int _ _)) _ _ _); k_dflt (refine r_mul (by walk_at "S_int") (by walk_at "S_int") (by walk_at "S_nn") ?_); intro _ _))
  k_with "S_enterC" => ((refine' code_defCG ?Q13Xa ?Q13Xb ?Q13Xc ?Q13Xd ?Q13Xe ?Q13Xf ?Q13Xg ?Q13Xh ?Q13Xi ?Q13Xj ?Q13Xk ?Q13Xl ?Q13Xm ?Q13Xn ?_ ?Q13Xo ?Q13Xp ?Q13Xq; (case Q13Xf => exact rfl); (case Q13Xg => exact rfl); (case Q13Xh => assumption); (case Q13Xa => k_asm); (case Q13Xb => k_asm); (case Q13Xc => k_asm); (case Q13Xd => k_asm); (case Q13Xe => k_asm); (case Q13Xi => k_is); (case Q13Xj => k_is); (case Q13Xk => ktr_room); (case Q13Xl => exact BindsTo.of_eq rfl); (case Q13Xm => rfl); (case Q13Xn => decide); (case Q13Xo => exact rfl); (case Q13Xp => exact rfl); (case Q13Xq => exact rfl); k_whole; intro Z13Xj Z13Xd Z13Xk Z13Xo Z13Xi Z13Xc Z13Xb Z13Xe Z13Xh Z13Xa Z13Xg Z13Xf Z13Xm Z13Xl Z13Xn; (try dsimp only [List.map_nil, List.map_cons] at Z13Xl); (try k_lt Z13Xm); k_cells Z13Xh; (try simp only [List.cons_append, List.nil_append] at Z13Xe); (try dsimp only); (try k_lift Z13Xa); (try k_fold)))
  k_with "S_lcs" => ((k_here; k_dflt (refine ListComp_S (_F₀ := by k_asm) (by rfl) (by decide) (by rfl) (by decide) (by rfl) ?_)))
  k_with "S_lit" => (first | (with_reducible exact lit_dots) | (with_reducible exact lit_empty) | (with_reducible exact lit34) | (with_reducible exact lit9234) | (with_reducible exact lit92) | (with_reducible exact lit10) | (with_reducible exact lit38) | (with_reducible exact lit59) | (with_reducible exact lit60) | (with_reducible exact lit62) | (with_reducible exact lit13) | (with_reducible exact lit9) | (with_reducible exact litamp) | (with_reducible exact litlt) | (with_reducible exact litgt) | (with_reducible exact litquot) | (with_reducible rfl))
  k_with "S_sum" => (assumption)
  k_with "eval ListComp" => (walk_at "S_lcs")
  k_with "compareOp In str str" => ((k_here; k_dflt (first | refine r_inF (by assumption) ?_ | refine r_inT (by walk_at "S_lit") (by assumption) ?_)))
  trivial
theorem con_written {w : World} {p loose mean mg mb} (G : Addr) (x mk f0 f1 f2 : List Nat) (tx tm t1 t2 t3 : Tok) (hx : x.length ≤ 9) (hf0 : f0.length ≤ 5) (hf1 : f1.length ≤ 5) (hf2 : f2.length ≤ 5)
    (hmk : ∀ c ∈ x, c ∈ mk → c = 38 ∨ c = 60 ∨ c = 62 ∨ c = 34 ∨ c = 13 ∨ c = 10 ∨ c = 9) :
    MCon 111 107 4 Challenge.pw_sc0056_01 w (hd.heap_1 w.params) p loose mean mg mb 136 [.str (S x) tx, .str (S mk) tm, .ref G] [(G, { cls := .type "tuple", data := .seq #[.str (S f0) t1, .str (S f1) t2, .str (S f2) t3] })]
      (fun v post => (∃ t, v = .str (S (x.flatMap (wrL mk f0 f1 f2))) t) ∧ post = [(G, { cls := .type "tuple", data := .seq #[.str (S f0) t1, .str (S f1) t2, .str (S f2) t3] })]) := by
  have hsum : ((x.map (wrL mk f0 f1 f2)).map (·.length)).sum + (x.map (wrL mk f0 f1 f2)).length ≤ 1000000 := by
    have := sum_le (f := wrL mk f0 f1 f2) (B := 7) (wrL_len hf0 hf1 hf2) x
    rw [List.length_map]; omega
  dsimp only [MCon]
  intros
  rename_i hret
  k_dflt (walk_at "S_enterC")
  (try clear sfl)
  k_steps
  rename News _ _ _ _ => N1
  rename Fr _ _ _ _ => F1
  refine ⟨x, _, _, rfl, rfl, F1, N1, by omega, fun s2 hs2 => ?_⟩
  obtain ⟨h9, rfl⟩ := hs2
  refine rest_ind (J := fun i ys news => StrsAre ys ((x.take i).map (wrL mk f0 f1 f2)) ∧ news = _) ?step ?fin _ 0 _ _ (Nat.zero_add _) ⟨.nil, rfl⟩
  case step =>
    intro i v ys news I oI C oC D m2 h tk E9 hi hP hJ hC hx2 F2 N2 off ne
    obtain ⟨hJ1, hJ2⟩ := hJ
    subst hJ2
    obtain ⟨c, u, hc, rfl⟩ := hP
    have hc' : x[i]? = some c := by simpa [S] using hc
    have hcx : c ∈ x := List.mem_of_getElem? hc'
    simp only [LCg.Off3, and_true] at off
    obtain ⟨⟨_, _, _⟩, ⟨_, _, _⟩, ⟨_, _, _⟩, _, _, _⟩ := off
    have hJ3 : ∀ t, StrsAre (ys ++ [Value.str (S (wrL mk f0 f1 f2 c)) t]) ((x.take (i + 1)).map (wrL mk f0 f1 f2)) := by
      intro t
      rw [List.take_add_one, hc', List.map_append]
      exact hJ1.append (.cons _ t .nil)
    by_cases hm : c ∈ mk
    · have hx3 : m2 (PySem.Str.ofString "sign") = some (Value.str (S [c]) u) := hx2
      clear hx2
      rcases hmk c hcx hm with rfl | rfl | rfl | rfl | rfl | rfl | rfl
      · have e : wrL mk f0 f1 f2 38 = [38] ++ [97, 109, 112] ++ [59] := by rw [wrL, if_pos hm]; rfl
        rw [e] at hJ3
        rw [← lit38] at hx3
        k_steps
        exact hJ3 _
      · have e : wrL mk f0 f1 f2 60 = [38] ++ [108, 116] ++ [59] := by rw [wrL, if_pos hm]; rfl
        rw [e] at hJ3
        rw [← lit60] at hx3
        k_steps
        exact hJ3 _
      · have e : wrL mk f0 f1 f2 62 = [38] ++ [103, 116] ++ [59] := by rw [wrL, if_pos hm]; rfl
        rw [e] at hJ3
        rw [← lit62] at hx3
        k_steps
        exact hJ3 _
      · have e : wrL mk f0 f1 f2 34 = [38] ++ [113, 117, 111, 116] ++ [59] := by rw [wrL, if_pos hm]; rfl
        rw [e] at hJ3
        rw [← lit34] at hx3
        k_steps
        exact hJ3 _
      · have e : wrL mk f0 f1 f2 13 = [38] ++ f0 ++ [59] := by rw [wrL, if_pos hm]; rfl
        rw [e] at hJ3
        rw [← lit13] at hx3
        k_steps
        exact hJ3 _
      · have e : wrL mk f0 f1 f2 10 = [38] ++ f1 ++ [59] := by rw [wrL, if_pos hm]; rfl
        rw [e] at hJ3
        rw [← lit10] at hx3
        k_steps
        exact hJ3 _
      · have e : wrL mk f0 f1 f2 9 = [38] ++ f2 ++ [59] := by rw [wrL, if_pos hm]; rfl
        rw [e] at hJ3
        rw [← lit9] at hx3
        k_steps
        exact hJ3 _
    · have hx3 : m2 (PySem.Str.ofString "sign") = some (Value.str (S [c]) u) := hx2
      clear hx2
      have e : wrL mk f0 f1 f2 c = [c] := by rw [wrL, if_neg hm]
      rw [e] at hJ3
      k_steps
      exact hJ3 _
  case fin =>
    rintro ys news ⟨hJ1, hJ2⟩
    subst hJ2
    rw [List.take_length] at hJ1
    k_steps
    rename News _ _ _ _ => N9
    exact hret _ [(G, { cls := .type "tuple", data := .seq #[.str (S f0) t1, .str (S f1) t2, .str (S f2) t3] })] _ _ (by assumption) (fun q hq => by rw [List.mem_singleton.mp hq]; exact N9 _ (by k_mem)) (mc_kept (by assumption) (by assumption)) ⟨⟨_, by rw [List.flatMap_def]⟩, rfl⟩
end
section
example : True := by
  k_with_none
  w_top off
  k_with "olt" => (first | assumption | ((fail_if_success refine oM ?_); refine oL ?_; k_extra "ole") | k_extra "olh")
  k_with "olh" => (refine oH (by assumption) (by k_extra "ole"))
  k_with "ole" => (first | exact Nat.le_refl _ | assumption | exact oB | ((first | refine oA ?_ | refine oA2 ?_ | refine oA3 ?_); k_extra "ocl") | (refine oS ?_; k_extra "ole") | (refine Nat.le_of_lt ?_; (first | assumption | k_extra "olh")) | exact oE)
  k_with "olt2" => (first | k_extra "oas" | ((fail_if_success refine oM ?_); refine oL ?_; k_extra "ole2") | k_extra "olh2")
  k_with "olh2" => (refine oH (by k_extra "oas") (by k_extra "ole2"))
  k_with "ole2" => (first | exact Nat.le_refl _ | k_extra "oas" | exact oB | ((first | refine oA ?_ | refine oA2 ?_ | refine oA3 ?_); k_extra "ocl") | (refine oS ?_; k_extra "ole2") | (refine Nat.le_of_lt ?_; (first | k_extra "oas" | k_extra "olh2")) | exact oE)
  k_with "opu" => (first | exact oB | exact Nat.le_refl _ | (refine oS ?_; k_extra "opu"))
  k_with "olt0" => (refine oL ?_; k_extra "opu")
  k_with "one" => (first | (refine Nat.ne_of_gt ?_; (fail_if_success refine oM ?_); k_extra "olt0") | (refine Nat.ne_of_lt ?_; (fail_if_success refine oM ?_); k_extra "olt0") | exact Ne.symm (by assumption) | (refine Nat.ne_of_gt ?_; (fail_if_success refine oM ?_); k_extra "oas") | (refine Nat.ne_of_lt ?_; (fail_if_success refine oM ?_); k_extra "oas") | (refine Nat.ne_of_gt ?_; (fail_if_success refine oM ?_); k_extra "odd") | (refine Nat.ne_of_lt ?_; (fail_if_success refine oM ?_); k_extra "odd") | (refine Nat.ne_of_gt ?_; (fail_if_success refine oM ?_); k_extra "olt") | (refine Nat.ne_of_lt ?_; (fail_if_success refine oM ?_); k_extra "olt") | (refine Nat.ne_of_gt ?_; (fail_if_success refine oM ?_); k_extra "olt2") | (refine Nat.ne_of_lt ?_; (fail_if_success refine oM ?_); k_extra "olt2") | decide)
  k_with "ol1" => (first | ((fail_if_success refine oM ?_); first | k_extra "oas" | k_extra "olt0" | k_extra "odd" | k_extra "olt" | k_extra "olt2") | k_extra "ocl" | exact oT0 | exact oT5)
  k_with "oe1" => (first | ((fail_if_success refine oN ?_); first | k_extra "oas" | k_extra "opu" | k_extra "ole" | k_extra "ole2" | exact oE (by k_extra "oas")) | k_extra "ocl" | k_extra "olit" | k_extra "oas")
  k_with "olit" => (first | exact oT4 | exact oP | exact oP2 | exact oT1 | exact oT2 | exact oT3 | exact oQ5 | exact oQ1 | exact oQ2 | exact oQ3 | exact oQ4 | exact oQ6 | exact oD)
  k_with "ocl" => (with_unfolding_all exact Nat.le_of_ble_eq_true rfl)
  k_with "oas" => (first | assumption | exact oa1 | exact ob1 | exact oa2 | exact ob2 | exact oa3 | exact ob3 | exact oa4 | exact ob4 | exact oa5 | exact ob5 | exact oa6 | exact ob6 | exact oa7 | exact ob7)
  k_with "odd" => (first | exact oa1 ob7 | exact oa2 ob7 | exact oa3 ob7 | exact oa4 ob7 | exact oa5 ob7 | exact oa6 ob7 | exact oa7 ob7 | exact oa1 (ob7 ob7) | exact oa2 (ob7 ob7) | exact oa3 (ob7 ob7) | exact oa4 (ob7 ob7) | exact oa5 (ob7 ob7) | exact oa6 (ob7 ob7) | exact oa7 (ob7 ob7) | exact ob1 ob7 | exact ob2 ob7 | exact ob3 ob7 | exact ob4 ob7 | exact ob5 ob7 | exact ob6 ob7 | exact ob7 ob7)
  k_with "oin" => (first | decide | exact oI1 | exact oI3 | exact oI2 (by k_extra "oas"))
  k_with "om" => (with_reducible first | (first | assumption | ((fail_if_success fail_if_success refine oXn ?_); k_extra "one") | ((fail_if_success fail_if_success refine oXl ?_); k_extra "ol1") | ((fail_if_success fail_if_success refine oXe ?_); k_extra "oe1") | k_extra "oin") | fail)
  k_with "S_fit" => (first | omega | ((simp only [S_len, List.length_append, List.length_cons, List.length_nil, List.length_take, List.length_drop, dots, PySem.sizeLine_eq]); omega))
  k_with "call builtin:len" => (((with_reducible show wpAny _ _ (call (Value.builtin "len") [Value.str (S _) _]) _ _ _); refine r_len (by walk_at "S_fit") ?_))
  k_with "call builtin:str.startswith" => (((with_reducible show wpAny _ _ (call (Value.builtin "str.startswith") [Value.str (S _) _, Value.str (S _) _]) _ _ _); refine r_starts ?_))
  k_with "call builtin:str.endswith" => (((with_reducible show wpAny _ _ (call (Value.builtin "str.endswith") [Value.str (S _) _, Value.str (S _) _]) _ _ _); refine r_ends ?_))
  k_with "truthy str" => (((with_reducible show wpAny _ _ (truthy (Value.str (S _) _)) _ _ _); refine r_truthy (by walk_at "S_fit") ?_))
  k_with "exec For Name Name cons nil" => ((k_here; (rename Fr _ _ _ _ => Z6Xa); (with_unfolding_all refine' For_invVF Z6Xa ?Q6Xa ?Q6Xb ?_; (case Q6Xa => exact rfl); (case Q6Xb => exact rfl); k_whole)))
  k_with "pyIter ref" => (((with_reducible show wpAny _ _ (pyIter (Value.ref _)) (fun it s₂ => LoopAtV _ _ _ _ _ _ _ _ _ it s₂) _ _); k_listUnr))
  k_with "S_enter" => ((refine' code_defG (news := []) ?Q8Xa ?Q8Xb ?Q8Xc ?Q8Xd ?Q8Xe ?Q8Xf ?Q8Xg ?Q8Xh ?Q8Xi ?Q8Xj ?Q8Xk ?Q8Xl ?Q8Xm ?_ ?Q8Xn ?Q8Xo ?Q8Xp ?Q8Xq; (case Q8Xf => exact rfl); (case Q8Xg => exact rfl); (case Q8Xh => assumption); (case Q8Xa => k_asm); (case Q8Xb => k_asm); (case Q8Xc => k_asm); (case Q8Xd => exact News.nil); (case Q8Xe => k_asm); (case Q8Xi => k_is); (case Q8Xj => k_is); (case Q8Xk => ktr_room); (case Q8Xl => exact BindsTo.of_eq rfl); (case Q8Xq => decide); (case Q8Xm => exact locs rfl); (case Q8Xn => exact rfl); (case Q8Xo => exact rfl); (case Q8Xp => exact rfl); k_whole; intro Z8Xh Z8Xd Z8Xi Z8Xc Z8Xb Z8Xe Z8Xa Z8Xg Z8Xf Z8Xj; (try dsimp only [List.map_nil] at Z8Xj); (try dsimp only); (try k_lift Z8Xa); (try k_fold)))
  k_with "S_look" => (first | exact rfl | assumption | exact (if_pos rfl) | (refine (if_neg (by decide)).trans ?_; walk_at "S_look"))
  k_with "eval Name" => ((k_here; k_dflt (refine' nameX_L ?QaXa ?QaXb ?_ ?QaXc ?QaXd; (case QaXa => k_asm); (case QaXc => rfl); (case QaXd => rfl); (case QaXb => walk_at "S_look"); k_whole)))
  k_with "S_lit" => (first | (with_reducible exact lit_dots) | (with_reducible rfl))
  k_with "S_nn" => (first | omega | ((simp only [List.length_append, List.length_cons, List.length_nil, List.length_take, List.length_drop, dots] at *); omega))
  k_with "binaryOp Add str str" => (((with_reducible show wpAny _ _ (binaryOp _ (Value.str _ _) (Value.str _ _)) _ _ _); k_dflt (refine r_add (by walk_at "S_lit") (by walk_at "S_lit") (by walk_at "S_fit") ?_); intro _ _))
  k_with "subscriptTail Name Slice str ref" => (((with_reducible show wpAny _ _ (subscriptTail _ (Expr.Slice none (some _) none _) (Value.str (S _) _) _) _ _ _); (with_reducible rename Fr _ _ _ _ => ZeXa); (with_reducible rename News _ _ _ _ => ZeXb); (refine r_sliceTo (s := ⟨_, _, _, _, _⟩) ZeXa ZeXb (by walk_at "S_nn") (by walk_at "S_fit") ?_); intro _ _ _ _ _))
  k_with "subscriptTail Name Slice str ref" => (((with_reducible show wpAny _ _ (subscriptTail _ (Expr.Slice (some _) none none _) (Value.str (S _) _) _) _ _ _); (with_reducible rename Fr _ _ _ _ => ZfXa); (with_reducible rename News _ _ _ _ => ZfXb); (refine r_sliceFrom (s := ⟨_, _, _, _, _⟩) ZfXa ZfXb (by walk_at "S_nn") (by walk_at "S_fit") ?_); intro _ _ _ _ _))
  k_with "exec For Name Call cons nil" => ((k_here; (rename Fr _ _ _ _ => ZgXa); (with_unfolding_all refine' For_invVF ZgXa ?QgXa ?QgXb ?_; (case QgXa => exact rfl); (case QgXb => exact rfl); k_whole)))
  k_with "S_use" => ((refine' pcon_use ?QhXa ?QhXb ?QhXc ?QhXd ?QhXe ?QhXf ?QhXg ?QhXh ?_; (case QhXb => k_asm); (case QhXc => k_asm); (case QhXd => k_asm); (case QhXe => k_asm); (case QhXa => walk_at "S_con"); (case QhXf => first | exact rfl | assumption); (case QhXg => ktr_room); (case QhXh => ktr_units)))
  k_with "call ref" => ((k_here; k_dflt (walk_at "S_use"); intro ZiXf ZiXd ZiXe ZiXb; (have ZiXa := Fr.keeps (by k_asm) ZiXb); (have ZiXc := News.grown (by k_asm) ZiXb); walk_at "S_back" <;> ((try dsimp only); (try k_fold))))
  k_with "pyIter ref" => (k_extra "S_loop")
  k_with "S_bool" => ((intro ZkXa; (rcases bool_or ZkXa with ⟨R8, R7⟩ | ⟨R8, R7⟩) <;> subst R7))
  k_with "call builtin:list.append" => ((k_here; (with_reducible show wpAny _ _ (call (Value.builtin _) [Value.ref _, _]) _ _ _); k_dflt (refine' append_K ?QlXa ?QlXb ?QlXc ?_ ?QlXd; (case QlXa => k_asm); (case QlXb => k_asm); (case QlXc => k_upd); (case QlXd => exact size_ok (k := 100000) (by omega) (by decide)); k_whole); intro ZlXc ZlXa ZlXb; (try k_sweep)))
  k_with "m_k_room" => (ktr_room)
  k_with "m_k_units" => (ktr_units)
  k_with "S_enterM" => ((refine' code_defG ?QoXa ?QoXb ?QoXc ?QoXd ?QoXe ?QoXf ?QoXg ?QoXh ?QoXi ?QoXj ?QoXk ?QoXl ?QoXm ?_ ?QoXn ?QoXo ?QoXp ?QoXq; (case QoXf => exact rfl); (case QoXg => exact rfl); (case QoXh => assumption); (case QoXa => k_asm); (case QoXb => k_asm); (case QoXc => k_asm); (case QoXd => k_asm); (case QoXe => k_asm); (case QoXi => k_is); (case QoXj => k_is); (case QoXk => ktr_room); (case QoXl => exact BindsTo.of_eq rfl); (case QoXq => decide); (case QoXm => exact locs rfl); (case QoXn => exact rfl); (case QoXo => exact rfl); (case QoXp => exact rfl); k_whole; intro ZoXh ZoXd ZoXi ZoXc ZoXb ZoXe ZoXa ZoXg ZoXf ZoXj; (try dsimp only [List.map_nil, List.map_cons] at ZoXj); (try dsimp only); (try k_lift ZoXa); (try k_fold)))
  k_with "callWith" => (((with_reducible show wpAny _ _ (callWith _ (Prod.fst _) (Prod.snd _) _ _) _ _ _); dsimp only))
  k_with "S_int" => (first | omega | decide | ((simp only [List.length_cons, List.length_nil, decide_eq_true_eq, decide_eq_false_iff_not, beq_iff_eq, beq_eq_false_iff_ne, ne_eq, Int.not_lt, Int.not_le] at *); omega))
  k_with "binaryOp FloorDiv int int" => (((with_reducible show wpAny _ _ (binaryOp _ (Value.int _ _) (Value.int _ _)) _ _ _); k_dflt (refine r_fdiv (by walk_at "S_int") (by walk_at "S_int") ?_); intro _ _))
  k_with "binaryOp Mod int int" => (((with_reducible show wpAny _ _ (binaryOp _ (Value.int _ _) (Value.int _ _)) _ _ _); k_dflt (refine r_fmod (by walk_at "S_int") ?_); intro _ _))
  k_with "S_item" => (((with_reducible show wpAny _ _ (subscriptTail _ _ (Value.str (S _) _) (Value.int _ _)) _ _ _); k_dflt (refine r_item (by walk_at "S_int") (by walk_at "S_int") (by walk_at "S_fit") ?_); intro _ _))
  k_with "subscriptTail Name BinOp str int" => (walk_at "S_item")
  k_with "subscriptTail Name Constant str int" => (walk_at "S_item")
  k_with "subscriptTail Name Name str int" => (walk_at "S_item")
  k_with "S_lit" => (first | (with_reducible exact lit_dots) | (with_reducible exact lit_empty) | (with_reducible exact lit34) | (with_reducible exact lit9234) | (with_reducible exact lit92) | (with_reducible exact lit10) | (with_reducible exact lit38) | (with_reducible exact lit59) | (with_reducible rfl))
  k_with "call builtin:str.replace" => (((with_reducible show wpAny _ _ (call (Value.builtin _) [Value.str (S _) _, Value.str _ _, Value.str _ _]) _ _ _); k_dflt (refine r_replace (by walk_at "S_lit") (by walk_at "S_lit") (by decide) (Nat.succ_ne_zero _) (Nat.succ_ne_zero _) (Nat.ne_of_lt (Nat.lt_succ_self _)) (by decide) (by walk_at "S_nn") ?_); intro _ _))
  k_with "call builtin:str.join" => ((k_here; (with_reducible show wpAny _ _ (call (Value.builtin _) [Value.str _ _, Value.ref _]) _ _ _); k_dflt (refine r_join (by walk_at "S_lit") (by walk_at "S_isl") (by walk_at "S_strs") (by walk_at "S_sum") ?_); intro _ _))
  k_with "S_isl" => (first | assumption | exact ⟨LCg.lst _, News.get (by k_asm) (by k_mem), rfl, _, rfl⟩ | is_list)
  k_with "S_strs" => (first | exact StrsAre.nil | assumption | (exact CharsAre.strs (by assumption)))
  k_with "binaryOp Mult str int" => (((with_reducible show wpAny _ _ (binaryOp _ (Value.str (S _) _) (Value.int _ _)) _ _ _); k_dflt (refine r_mul (by walk_at "S_int") (by walk_at "S_int") (by walk_at "S_nn") ?_); intro _ _))
  k_with "S_enterC" => ((refine' code_defCG ?Q13Xa ?Q13Xb ?Q13Xc ?Q13Xd ?Q13Xe ?Q13Xf ?Q13Xg ?Q13Xh ?Q13Xi ?Q13Xj ?Q13Xk ?Q13Xl ?Q13Xm ?Q13Xn ?_ ?Q13Xo ?Q13Xp ?Q13Xq; (case Q13Xf => exact rfl); (case Q13Xg => exact rfl); (case Q13Xh => assumption); (case Q13Xa => k_asm); (case Q13Xb => k_asm); (case Q13Xc => k_asm); (case Q13Xd => k_asm); (case Q13Xe => k_asm); (case Q13Xi => k_is); (case Q13Xj => k_is); (case Q13Xk => ktr_room); (case Q13Xl => exact BindsTo.of_eq rfl); (case Q13Xm => rfl); (case Q13Xn => decide); (case Q13Xo => exact rfl); (case Q13Xp => exact rfl); (case Q13Xq => exact rfl); k_whole; intro Z13Xj Z13Xd Z13Xk Z13Xo Z13Xi Z13Xc Z13Xb Z13Xe Z13Xh Z13Xa Z13Xg Z13Xf Z13Xm Z13Xl Z13Xn; (try dsimp only [List.map_nil, List.map_cons] at Z13Xl); (try k_lt Z13Xm); k_cells Z13Xh; (try simp only [List.cons_append, List.nil_append] at Z13Xe); (try dsimp only); (try k_lift Z13Xa); (try k_fold)))
  k_with "S_lcs" => ((k_here; k_dflt (refine ListComp_S (_F₀ := by k_asm) (by rfl) (by decide) (by rfl) (by decide) (by rfl) ?_)))
  k_with "S_lit" => (first | (with_reducible exact lit_dots) | (with_reducible exact lit_empty) | (with_reducible exact lit34) | (with_reducible exact lit9234) | (with_reducible exact lit92) | (with_reducible exact lit10) | (with_reducible exact lit38) | (with_reducible exact lit59) | (with_reducible exact lit60) | (with_reducible exact lit62) | (with_reducible exact lit13) | (with_reducible exact lit9) | (with_reducible exact litamp) | (with_reducible exact litlt) | (with_reducible exact litgt) | (with_reducible exact litquot) | (with_reducible rfl))
  k_with "S_sum" => (assumption)
  k_with "S_con" => (first
  | exact con_ell _ _ _ _ _ (by walk_at "S_nn") (by walk_at "S_nn") (by walk_at "S_nn") (by walk_at "S_free") (by walk_at "S_free")
  | exact con_ell0 _ _ _ _ (by walk_at "S_nn") (by walk_at "S_nn") (by walk_at "S_free")
  | exact con_ell1 _ _ _ _ (by walk_at "S_nn") (by walk_at "S_nn") (by walk_at "S_free"))
  k_with "S_free" => (first | assumption | (intro Z18Xa; exact absurd (List.mem_of_mem_take Z18Xa) (by assumption)) | (intro Z18Xa; exact absurd (List.mem_of_mem_drop Z18Xa) (by assumption)))
  k_with "S_back" => (walk_at "S_bool")
  trivial
theorem con_laps {w : World} {p loose mean mg mb} (t : List Nat) (tt : Tok) (ht : t.length ≤ 900) (hfree : 46 ∉ t) :
    PCon 4 Challenge.pw_sc0056_01 w (hd.heap_1 w.params) p loose mean mg mb 143 [.str (S t) tt] (fun h h' v => ∃ D vs k, v = .ref D ∧ h'.get? D = some (listOf vs.toArray k) ∧ h.get? D = none ∧ IntsAre vs (nI (lapsL t))) := by
  dsimp only [PCon]
  intros
  rename_i hret
  refine wpAny_call ?_
  k_dflt (walk_at "S_enter")
  (try clear sfl)
  k_with "S_loop" => (refine stop9 ?_)
  k_steps
  refine Stop9.go ?_
  rename IsRange _ _ _ _ _ _ _ _ => hR9
  rename Fr _ _ _ _ => lF'
  rename News _ _ _ _ => lN'
  with_unfolding_all refine iter_range (fun i m news => m (PySem.Str.ofString "text") = some (.str (S t) tt) ∧ ∃ D vs k, m (PySem.Str.ofString "told") = some (.ref D) ∧ news = [(D, listOf vs.toArray k)] ∧ IntsAre vs (nI (lapsTo t i)) ∧ vs.length ≤ i) t.length (by rfl) hR9 ?small (by omega) lF' lN' ?start ?turn ?done
  case small => exact small_le (by omega) (by omega) (by omega) (by omega)
  case start => exact ⟨rfl, _, [], _, rfl, rfl, .nil, Nat.le_refl _⟩
  case turn =>
    clear lF' lN'
    intro I' i' m' news' t' h' tk' hi' hJ' F' N'
    obtain ⟨hT', D', vs', k', hD', hn', hI', hv'⟩ := hJ'
    subst hn'
    have hne' := news_ne N' (.head _) (.tail _ (.head _)) (show Value.type "range_iterator" ≠ Value.type "list" by decide)
    (try clear sfl)
    k_steps
    all_goals first
      | exact lap_yesP hI' ((lap_ell1 hi' (by omega)).symm.trans (by assumption))
      | exact lap_yesP hI' ((lap_ell2 hi').symm.trans (by assumption))
      | exact lap_no hI' ((lap_ell1 hi' (by omega)).symm.trans (by assumption))
      | exact lap_no hI' ((lap_ell2 hi').symm.trans (by assumption))
  case done =>
    clear lF' lN'
    intro m' news' h' tk' hJ' F' N'
    obtain ⟨hT', D', vs', k', hD', hn', hI', hv'⟩ := hJ'
    subst hn'
    k_steps
    exact hret _ _ _ (pc_kept (by assumption) (by assumption)) ⟨D', vs', k', rfl, News.get N' (.head _), gsub_none (by assumption) (News.fresh N' (.head _)), hI'⟩
end
section
local macro_rules | `(tactic| walk_at "zz0") => `(tactic| fail)
local macro_rules | `(tactic| walk_at "zz1") => `(tactic| fail)
local macro_rules | `(tactic| walk_at "zz2") => `(tactic| fail)
example : True := by
  k_with_none
  w_top off
  k_with "olt" => (first | assumption | ((fail_if_success refine oM ?_); refine oL ?_; k_extra "ole") | k_extra "olh")
  k_with "olh" => (refine oH (by assumption) (by k_extra "ole"))
  k_with "ole" => (first | exact Nat.le_refl _ | assumption | exact oB | ((first | refine oA ?_ | refine oA2 ?_ | refine oA3 ?_); k_extra "ocl") | (refine oS ?_; k_extra "ole") | (refine Nat.le_of_lt ?_; (first | assumption | k_extra "olh")) | exact oE)
  k_with "olt2" => (first | k_extra "oas" | ((fail_if_success refine oM ?_); refine oL ?_; k_extra "ole2") | k_extra "olh2")
  k_with "olh2" => (refine oH (by k_extra "oas") (by k_extra "ole2"))
  k_with "ole2" => (first | exact Nat.le_refl _ | k_extra "oas" | exact oB | ((first | refine oA ?_ | refine oA2 ?_ | refine oA3 ?_); k_extra "ocl") | (refine oS ?_; k_extra "ole2") | (refine Nat.le_of_lt ?_; (first | k_extra "oas" | k_extra "olh2")) | exact oE)
  k_with "opu" => (first | exact oB | exact Nat.le_refl _ | (refine oS ?_; k_extra "opu"))
  k_with "olt0" => (refine oL ?_; k_extra "opu")
  k_with "one" => (first | (refine Nat.ne_of_gt ?_; (fail_if_success refine oM ?_); k_extra "olt0") | (refine Nat.ne_of_lt ?_; (fail_if_success refine oM ?_); k_extra "olt0") | exact Ne.symm (by assumption) | (refine Nat.ne_of_gt ?_; (fail_if_success refine oM ?_); k_extra "oas") | (refine Nat.ne_of_lt ?_; (fail_if_success refine oM ?_); k_extra "oas") | (refine Nat.ne_of_gt ?_; (fail_if_success refine oM ?_); k_extra "odd") | (refine Nat.ne_of_lt ?_; (fail_if_success refine oM ?_); k_extra "odd") | (refine Nat.ne_of_gt ?_; (fail_if_success refine oM ?_); k_extra "olt") | (refine Nat.ne_of_lt ?_; (fail_if_success refine oM ?_); k_extra "olt") | (refine Nat.ne_of_gt ?_; (fail_if_success refine oM ?_); k_extra "olt2") | (refine Nat.ne_of_lt ?_; (fail_if_success refine oM ?_); k_extra "olt2") | decide)
  k_with "ol1" => (first | ((fail_if_success refine oM ?_); first | k_extra "oas" | k_extra "olt0" | k_extra "odd" | k_extra "olt" | k_extra "olt2") | k_extra "ocl" | exact oT0 | exact oT5)
  k_with "oe1" => (first | ((fail_if_success refine oN ?_); first | k_extra "oas" | k_extra "opu" | k_extra "ole" | k_extra "ole2" | exact oE (by k_extra "oas")) | k_extra "ocl" | k_extra "olit" | k_extra "oas")
  k_with "olit" => (first | exact oT4 | exact oP | exact oP2 | exact oT1 | exact oT2 | exact oT3 | exact oQ5 | exact oQ1 | exact oQ2 | exact oQ3 | exact oQ4 | exact oQ6 | exact oD)
  k_with "ocl" => (with_unfolding_all exact Nat.le_of_ble_eq_true rfl)
  k_with "oas" => (first | assumption | exact oa1 | exact ob1 | exact oa2 | exact ob2 | exact oa3 | exact ob3 | exact oa4 | exact ob4 | exact oa5 | exact ob5 | exact oa6 | exact ob6 | exact oa7 | exact ob7)
  k_with "odd" => (first | exact oa1 ob7 | exact oa2 ob7 | exact oa3 ob7 | exact oa4 ob7 | exact oa5 ob7 | exact oa6 ob7 | exact oa7 ob7 | exact oa1 (ob7 ob7) | exact oa2 (ob7 ob7) | exact oa3 (ob7 ob7) | exact oa4 (ob7 ob7) | exact oa5 (ob7 ob7) | exact oa6 (ob7 ob7) | exact oa7 (ob7 ob7) | exact ob1 ob7 | exact ob2 ob7 | exact ob3 ob7 | exact ob4 ob7 | exact ob5 ob7 | exact ob6 ob7 | exact ob7 ob7)
  k_with "oin" => (first | decide | exact oI1 | exact oI3 | exact oI2 (by k_extra "oas"))
  k_with "om" => (with_reducible first | (first | assumption | ((fail_if_success fail_if_success refine oXn ?_); k_extra "one") | ((fail_if_success fail_if_success refine oXl ?_); k_extra "ol1") | ((fail_if_success fail_if_success refine oXe ?_); k_extra "oe1") | k_extra "oin") | fail)
  k_with "S_fit" => (first | omega | ((simp only [S_len, List.length_append, List.length_cons, List.length_nil, List.length_take, List.length_drop, dots, PySem.sizeLine_eq]); omega))
  k_with "call builtin:len" => (((with_reducible show wpAny _ _ (call (Value.builtin "len") [Value.str (S _) _]) _ _ _); refine r_len (by walk_at "S_fit") ?_))
  k_with "call builtin:str.startswith" => (((with_reducible show wpAny _ _ (call (Value.builtin "str.startswith") [Value.str (S _) _, Value.str (S _) _]) _ _ _); refine r_starts ?_))
  k_with "call builtin:str.endswith" => (((with_reducible show wpAny _ _ (call (Value.builtin "str.endswith") [Value.str (S _) _, Value.str (S _) _]) _ _ _); refine r_ends ?_))
  k_with "truthy str" => (((with_reducible show wpAny _ _ (truthy (Value.str (S _) _)) _ _ _); refine r_truthy (by walk_at "S_fit") ?_))
  k_with "exec For Name Name cons nil" => ((k_here; (rename Fr _ _ _ _ => Z6Xa); (with_unfolding_all refine' For_invVF Z6Xa ?Q6Xa ?Q6Xb ?_; (case Q6Xa => exact rfl); (case Q6Xb => exact rfl); k_whole)))
  k_with "pyIter ref" => (((with_reducible show wpAny _ _ (pyIter (Value.ref _)) (fun it s₂ => LoopAtV _ _ _ _ _ _ _ _ _ it s₂) _ _); k_listUnr))
  k_with "S_enter" => ((refine' code_defG (news := []) ?Q8Xa ?Q8Xb ?Q8Xc ?Q8Xd ?Q8Xe ?Q8Xf ?Q8Xg ?Q8Xh ?Q8Xi ?Q8Xj ?Q8Xk ?Q8Xl ?Q8Xm ?_ ?Q8Xn ?Q8Xo ?Q8Xp ?Q8Xq; (case Q8Xf => exact rfl); (case Q8Xg => exact rfl); (case Q8Xh => assumption); (case Q8Xa => k_asm); (case Q8Xb => k_asm); (case Q8Xc => k_asm); (case Q8Xd => exact News.nil); (case Q8Xe => k_asm); (case Q8Xi => k_is); (case Q8Xj => k_is); (case Q8Xk => ktr_room); (case Q8Xl => exact BindsTo.of_eq rfl); (case Q8Xq => decide); (case Q8Xm => exact locs rfl); (case Q8Xn => exact rfl); (case Q8Xo => exact rfl); (case Q8Xp => exact rfl); k_whole; intro Z8Xh Z8Xd Z8Xi Z8Xc Z8Xb Z8Xe Z8Xa Z8Xg Z8Xf Z8Xj; (try dsimp only [List.map_nil] at Z8Xj); (try dsimp only); (try k_lift Z8Xa); (try k_fold)))
  k_with "S_look" => (first | exact rfl | assumption | exact (if_pos rfl) | (refine (if_neg (by decide)).trans ?_; walk_at "S_look"))
  k_with "eval Name" => ((k_here; k_dflt (refine' nameX_L ?QaXa ?QaXb ?_ ?QaXc ?QaXd; (case QaXa => k_asm); (case QaXc => rfl); (case QaXd => rfl); (case QaXb => walk_at "S_look"); k_whole)))
  k_with "S_lit" => (first | (with_reducible exact lit_dots) | (with_reducible rfl))
  k_with "S_nn" => (first | omega | ((simp only [List.length_append, List.length_cons, List.length_nil, List.length_take, List.length_drop, dots] at *); omega))
  k_with "binaryOp Add str str" => (((with_reducible show wpAny _ _ (binaryOp _ (Value.str _ _) (Value.str _ _)) _ _ _); k_dflt (refine r_add (by walk_at "S_lit") (by walk_at "S_lit") (by walk_at "S_fit") ?_); intro _ _))
  k_with "subscriptTail Name Slice str ref" => (((with_reducible show wpAny _ _ (subscriptTail _ (Expr.Slice none (some _) none _) (Value.str (S _) _) _) _ _ _); (with_reducible rename Fr _ _ _ _ => ZeXa); (with_reducible rename News _ _ _ _ => ZeXb); (refine r_sliceTo (s := ⟨_, _, _, _, _⟩) ZeXa ZeXb (by walk_at "S_nn") (by walk_at "S_fit") ?_); intro _ _ _ _ _))
  k_with "subscriptTail Name Slice str ref" => (((with_reducible show wpAny _ _ (subscriptTail _ (Expr.Slice (some _) none none _) (Value.str (S _) _) _) _ _ _); (with_reducible rename Fr _ _ _ _ => ZfXa); (with_reducible rename News _ _ _ _ => ZfXb); (refine r_sliceFrom (s := ⟨_, _, _, _, _⟩) ZfXa ZfXb (by walk_at "S_nn") (by walk_at "S_fit") ?_); intro _ _ _ _ _))
  k_with "exec For Name Call cons nil" => ((k_here; (rename Fr _ _ _ _ => ZgXa); (with_unfolding_all refine' For_invVF ZgXa ?QgXa ?QgXb ?_; (case QgXa => exact rfl); (case QgXb => exact rfl); k_whole)))
  k_with "S_use" => ((refine' pcon_use ?QhXa ?QhXb ?QhXc ?QhXd ?QhXe ?QhXf ?QhXg ?QhXh ?_; (case QhXb => k_asm); (case QhXc => k_asm); (case QhXd => k_asm); (case QhXe => k_asm); (case QhXa => walk_at "S_con"); (case QhXf => first | exact rfl | assumption); (case QhXg => ktr_room); (case QhXh => ktr_units)))
  k_with "call ref" => ((k_here; k_dflt (walk_at "S_use"); intro ZiXf ZiXd ZiXe ZiXb; (have ZiXa := Fr.keeps (by k_asm) ZiXb); (have ZiXc := News.grown (by k_asm) ZiXb); walk_at "S_back" <;> ((try dsimp only); (try k_fold))))
  k_with "pyIter ref" => (k_extra "S_loop")
  k_with "S_bool" => ((intro ZkXa; (rcases bool_or ZkXa with ⟨R8, R7⟩ | ⟨R8, R7⟩) <;> subst R7))
  k_with "call builtin:list.append" => ((k_here; (with_reducible show wpAny _ _ (call (Value.builtin _) [Value.ref _, _]) _ _ _); k_dflt (refine' append_K ?QlXa ?QlXb ?QlXc ?_ ?QlXd; (case QlXa => k_asm); (case QlXb => k_asm); (case QlXc => k_upd); (case QlXd => exact size_ok (k := 100000) (by omega) (by decide)); k_whole); intro ZlXc ZlXa ZlXb; (try k_sweep)))
  k_with "m_k_room" => (ktr_room)
  k_with "m_k_units" => (ktr_units)
  k_with "S_enterM" => ((refine' code_defG ?QoXa ?QoXb ?QoXc ?QoXd ?QoXe ?QoXf ?QoXg ?QoXh ?QoXi ?QoXj ?QoXk ?QoXl ?QoXm ?_ ?QoXn ?QoXo ?QoXp ?QoXq; (case QoXf => exact rfl); (case QoXg => exact rfl); (case QoXh => assumption); (case QoXa => k_asm); (case QoXb => k_asm); (case QoXc => k_asm); (case QoXd => k_asm); (case QoXe => k_asm); (case QoXi => k_is); (case QoXj => k_is); (case QoXk => ktr_room); (case QoXl => exact BindsTo.of_eq rfl); (case QoXq => decide); (case QoXm => exact locs rfl); (case QoXn => exact rfl); (case QoXo => exact rfl); (case QoXp => exact rfl); k_whole; intro ZoXh ZoXd ZoXi ZoXc ZoXb ZoXe ZoXa ZoXg ZoXf ZoXj; (try dsimp only [List.map_nil, List.map_cons] at ZoXj); (try dsimp only); (try k_lift ZoXa); (try k_fold)))
  k_with "callWith" => (((with_reducible show wpAny _ _ (callWith _ (Prod.fst _) (Prod.snd _) _ _) _ _ _); dsimp only))
  k_with "S_int" => (first | omega | decide | ((simp only [List.length_cons, List.length_nil, decide_eq_true_eq, decide_eq_false_iff_not, beq_iff_eq, beq_eq_false_iff_ne, ne_eq, Int.not_lt, Int.not_le] at *); omega))
  k_with "binaryOp FloorDiv int int" => (((with_reducible show wpAny _ _ (binaryOp _ (Value.int _ _) (Value.int _ _)) _ _ _); k_dflt (refine r_fdiv (by walk_at "S_int") (by walk_at "S_int") ?_); intro _ _))
  k_with "binaryOp Mod int int" => (((with_reducible show wpAny _ _ (binaryOp _ (Value.int _ _) (Value.int _ _)) _ _ _); k_dflt (refine r_fmod (by walk_at "S_int") ?_); intro _ _))
  k_with "S_item" => (((with_reducible show wpAny _ _ (subscriptTail _ _ (Value.str (S _) _) (Value.int _ _)) _ _ _); k_dflt (refine r_item (by walk_at "S_int") (by walk_at "S_int") (by walk_at "S_fit") ?_); intro _ _))
  k_with "subscriptTail Name BinOp str int" => (walk_at "S_item")
  k_with "subscriptTail Name Constant str int" => (walk_at "S_item")
  k_with "subscriptTail Name Name str int" => (walk_at "S_item")
  k_with "S_lit" => (first | (with_reducible exact lit_dots) | (with_reducible exact lit_empty) | (with_reducible exact lit34) | (with_reducible exact lit9234) | (with_reducible exact lit92) | (with_reducible exact lit10) | (with_reducible exact lit38) | (with_reducible exact lit59) | (with_reducible rfl))
  k_with "call builtin:str.replace" => (((with_reducible show wpAny _ _ (call (Value.builtin _) [Value.str (S _) _, Value.str _ _, Value.str _ _]) _ _ _); k_dflt (refine r_replace (by walk_at "S_lit") (by walk_at "S_lit") (by decide) (Nat.succ_ne_zero _) (Nat.succ_ne_zero _) (Nat.ne_of_lt (Nat.lt_succ_self _)) (by decide) (by walk_at "S_nn") ?_); intro _ _))
  k_with "call builtin:str.join" => ((k_here; (with_reducible show wpAny _ _ (call (Value.builtin _) [Value.str _ _, Value.ref _]) _ _ _); k_dflt (refine r_join (by walk_at "S_lit") (by walk_at "S_isl") (by walk_at "S_strs") (by walk_at "S_sum") ?_); intro _ _))
  k_with "S_isl" => (first | assumption | exact ⟨LCg.lst _, News.get (by k_asm) (by k_mem), rfl, _, rfl⟩ | is_list)
  k_with "S_strs" => (first | exact StrsAre.nil | assumption | (exact CharsAre.strs (by assumption)))
  k_with "binaryOp Mult str int" => (((with_reducible show wpAny _ _ (binaryOp _ (Value.str (S _) _) (Value.int _ _)) _ _ _); k_dflt (refine r_mul (by walk_at "S_int") (by walk_at "S_int") (by walk_at "S_nn") ?_); intro _ _))
  k_with "S_enterC" => ((refine' code_defCG ?Q13Xa ?Q13Xb ?Q13Xc ?Q13Xd ?Q13Xe ?Q13Xf ?Q13Xg ?Q13Xh ?Q13Xi ?Q13Xj ?Q13Xk ?Q13Xl ?Q13Xm ?Q13Xn ?_ ?Q13Xo ?Q13Xp ?Q13Xq; (case Q13Xf => exact rfl); (case Q13Xg => exact rfl); (case Q13Xh => assumption); (case Q13Xa => k_asm); (case Q13Xb => k_asm); (case Q13Xc => k_asm); (case Q13Xd => k_asm); (case Q13Xe => k_asm); (case Q13Xi => k_is); (case Q13Xj => k_is); (case Q13Xk => ktr_room); (case Q13Xl => exact BindsTo.of_eq rfl); (case Q13Xm => rfl); (case Q13Xn => decide); (case Q13Xo => exact rfl); (case Q13Xp => exact rfl); (case Q13Xq => exact rfl); k_whole; intro Z13Xj Z13Xd Z13Xk Z13Xo Z13Xi Z13Xc Z13Xb Z13Xe Z13Xh Z13Xa Z13Xg Z13Xf Z13Xm Z13Xl Z13Xn; (try dsimp only [List.map_nil, List.map_cons] at Z13Xl); (try k_lt Z13Xm); k_cells Z13Xh; (try simp only [List.cons_append, List.nil_append] at Z13Xe); (try dsimp only); (try k_lift Z13Xa); (try k_fold)))
  k_with "S_lcs" => ((k_here; k_dflt (refine ListComp_S (_F₀ := by k_asm) (by rfl) (by decide) (by rfl) (by decide) (by rfl) ?_)))
  k_with "S_lit" => (first | (with_reducible exact lit_dots) | (with_reducible exact lit_empty) | (with_reducible exact lit34) | (with_reducible exact lit9234) | (with_reducible exact lit92) | (with_reducible exact lit10) | (with_reducible exact lit38) | (with_reducible exact lit59) | (with_reducible exact lit60) | (with_reducible exact lit62) | (with_reducible exact lit13) | (with_reducible exact lit9) | (with_reducible exact litamp) | (with_reducible exact litlt) | (with_reducible exact litgt) | (with_reducible exact litquot) | (with_reducible rfl))
  k_with "S_sum" => (assumption)
  k_with "S_esc" => (first
  | refine r_escIf (c0 := 38) (z0 := eAmp) (by decide +kernel) (by decide +kernel) (by decide) (by decide) (by assumption) (by decide) (by k_asm) (by k_asm) rfl ?_
  | refine r_escIf (c0 := 60) (z0 := eLt) (by decide +kernel) (by decide +kernel) (by decide) (by decide) (by assumption) (by decide) (by k_asm) (by k_asm) rfl ?_
  | refine r_escIf (c0 := 62) (z0 := eGt) (by decide +kernel) (by decide +kernel) (by decide) (by decide) (by assumption) (by decide) (by k_asm) (by k_asm) rfl ?_
  | refine r_escIf (c0 := 34) (z0 := eQuot) (by decide +kernel) (by decide +kernel) (by decide) (by decide) (by assumption) (by decide) (by k_asm) (by k_asm) rfl ?_
  | refine r_escIf (c0 := 13) (z0 := e13) (by decide +kernel) (by decide +kernel) (by decide) (by decide) (by assumption) (by decide) (by k_asm) (by k_asm) rfl ?_
  | refine r_escIf (c0 := 10) (z0 := e10) (by decide +kernel) (by decide +kernel) (by decide) (by decide) (by assumption) (by decide) (by k_asm) (by k_asm) rfl ?_
  | refine r_escIf (c0 := 9) (z0 := e09) (by decide +kernel) (by decide +kernel) (by decide) (by decide) (by assumption) (by decide) (by k_asm) (by k_asm) rfl ?_
  | refine r_escIf (c0 := 13) (z0 := exD) (by decide +kernel) (by decide +kernel) (by decide) (by decide) (by assumption) (by decide) (by k_asm) (by k_asm) rfl ?_
  | refine r_escIf (c0 := 10) (z0 := exA) (by decide +kernel) (by decide +kernel) (by decide) (by decide) (by assumption) (by decide) (by k_asm) (by k_asm) rfl ?_
  | refine r_escIf (c0 := 9) (z0 := ex9) (by decide +kernel) (by decide +kernel) (by decide) (by decide) (by assumption) (by decide) (by k_asm) (by k_asm) rfl ?_)
  k_with "exec If" => ((k_dflt (walk_at "S_esc"); intro Z18Xc Z18Xf Z18Xe Z18Xd Z18Xa Z18Xb; (try dsimp only)))
  k_with "S_wr" => ((
  dsimp only [PCon]
  intros
  rename_i hret
  refine wpAny_call ?_
  k_dflt (walk_at "S_enter")
  (try clear sfl)
  k_steps
  all_goals (exact hret _ _ _ (pc_kept (by assumption) (by assumption)) ⟨_, rfl⟩)))
  trivial
theorem con_wr0 {w : World} {p loose mean mg mb} (x : List Nat) (tw : Tok) (hx : x.length ≤ 9) : PCon 2 Challenge.pw_sc0056_01 w (hd.heap_1 w.params) p loose mean mg mb 77 [.str (S x) tw] (fun _ _ v => ∃ t, v = .str (S (wr0 x)) t) := by
  walk_at "S_wr"
theorem con_wr1 {w : World} {p loose mean mg mb} (x : List Nat) (tw : Tok) (hx : x.length ≤ 9) : PCon 2 Challenge.pw_sc0056_01 w (hd.heap_1 w.params) p loose mean mg mb 84 [.str (S x) tw] (fun _ _ v => ∃ t, v = .str (S (wr1 x)) t) := by
  walk_at "S_wr"
theorem con_wr2 {w : World} {p loose mean mg mb} (x : List Nat) (tw : Tok) (hx : x.length ≤ 9) : PCon 2 Challenge.pw_sc0056_01 w (hd.heap_1 w.params) p loose mean mg mb 91 [.str (S x) tw] (fun _ _ v => ∃ t, v = .str (S (wr2 x)) t) := by
  walk_at "S_wr"
theorem con_wr3 {w : World} {p loose mean mg mb} (x : List Nat) (tw : Tok) (hx : x.length ≤ 9) : PCon 2 Challenge.pw_sc0056_01 w (hd.heap_1 w.params) p loose mean mg mb 98 [.str (S x) tw] (fun _ _ v => ∃ t, v = .str (S (wr3 x)) t) := by
  walk_at "S_wr"
theorem con_wr4 {w : World} {p loose mean mg mb} (x : List Nat) (tw : Tok) (hx : x.length ≤ 9) : PCon 2 Challenge.pw_sc0056_01 w (hd.heap_1 w.params) p loose mean mg mb 105 [.str (S x) tw] (fun _ _ v => ∃ t, v = .str (S (wr4 x)) t) := by
  walk_at "S_wr"
end
section
example : True := by
  k_with_none
  w_top off
  k_with "olt" => (first | assumption | ((fail_if_success refine oM ?_); refine oL ?_; k_extra "ole") | k_extra "olh")
  k_with "olh" => (refine oH (by assumption) (by k_extra "ole"))
  k_with "ole" => (first | exact Nat.le_refl _ | assumption | exact oB | ((first | refine oA ?_ | refine oA2 ?_ | refine oA3 ?_); k_extra "ocl") | (refine oS ?_; k_extra "ole") | (refine Nat.le_of_lt ?_; (first | assumption | k_extra "olh")) | exact oE)
  k_with "olt2" => (first | k_extra "oas" | ((fail_if_success refine oM ?_); refine oL ?_; k_extra "ole2") | k_extra "olh2")
  k_with "olh2" => (refine oH (by k_extra "oas") (by k_extra "ole2"))
  k_with "ole2" => (first | exact Nat.le_refl _ | k_extra "oas" | exact oB | ((first | refine oA ?_ | refine oA2 ?_ | refine oA3 ?_); k_extra "ocl") | (refine oS ?_; k_extra "ole2") | (refine Nat.le_of_lt ?_; (first | k_extra "oas" | k_extra "olh2")) | exact oE)
  k_with "opu" => (first | exact oB | exact Nat.le_refl _ | (refine oS ?_; k_extra "opu"))
  k_with "olt0" => (refine oL ?_; k_extra "opu")
  k_with "one" => (first | (refine Nat.ne_of_gt ?_; (fail_if_success refine oM ?_); k_extra "olt0") | (refine Nat.ne_of_lt ?_; (fail_if_success refine oM ?_); k_extra "olt0") | exact Ne.symm (by assumption) | (refine Nat.ne_of_gt ?_; (fail_if_success refine oM ?_); k_extra "oas") | (refine Nat.ne_of_lt ?_; (fail_if_success refine oM ?_); k_extra "oas") | (refine Nat.ne_of_gt ?_; (fail_if_success refine oM ?_); k_extra "odd") | (refine Nat.ne_of_lt ?_; (fail_if_success refine oM ?_); k_extra "odd") | (refine Nat.ne_of_gt ?_; (fail_if_success refine oM ?_); k_extra "olt") | (refine Nat.ne_of_lt ?_; (fail_if_success refine oM ?_); k_extra "olt") | (refine Nat.ne_of_gt ?_; (fail_if_success refine oM ?_); k_extra "olt2") | (refine Nat.ne_of_lt ?_; (fail_if_success refine oM ?_); k_extra "olt2") | decide)
  k_with "ol1" => (first | ((fail_if_success refine oM ?_); first | k_extra "oas" | k_extra "olt0" | k_extra "odd" | k_extra "olt" | k_extra "olt2") | k_extra "ocl" | exact oT0 | exact oT5)
  k_with "oe1" => (first | ((fail_if_success refine oN ?_); first | k_extra "oas" | k_extra "opu" | k_extra "ole" | k_extra "ole2" | exact oE (by k_extra "oas")) | k_extra "ocl" | k_extra "olit" | k_extra "oas")
  k_with "olit" => (first | exact oT4 | exact oP | exact oP2 | exact oT1 | exact oT2 | exact oT3 | exact oQ5 | exact oQ1 | exact oQ2 | exact oQ3 | exact oQ4 | exact oQ6 | exact oD)
  k_with "ocl" => (with_unfolding_all exact Nat.le_of_ble_eq_true rfl)
  k_with "oas" => (first | assumption | exact oa1 | exact ob1 | exact oa2 | exact ob2 | exact oa3 | exact ob3 | exact oa4 | exact ob4 | exact oa5 | exact ob5 | exact oa6 | exact ob6 | exact oa7 | exact ob7)
  k_with "odd" => (first | exact oa1 ob7 | exact oa2 ob7 | exact oa3 ob7 | exact oa4 ob7 | exact oa5 ob7 | exact oa6 ob7 | exact oa7 ob7 | exact oa1 (ob7 ob7) | exact oa2 (ob7 ob7) | exact oa3 (ob7 ob7) | exact oa4 (ob7 ob7) | exact oa5 (ob7 ob7) | exact oa6 (ob7 ob7) | exact oa7 (ob7 ob7) | exact ob1 ob7 | exact ob2 ob7 | exact ob3 ob7 | exact ob4 ob7 | exact ob5 ob7 | exact ob6 ob7 | exact ob7 ob7)
  k_with "oin" => (first | decide | exact oI1 | exact oI3 | exact oI2 (by k_extra "oas"))
  k_with "om" => (with_reducible first | (first | assumption | ((fail_if_success fail_if_success refine oXn ?_); k_extra "one") | ((fail_if_success fail_if_success refine oXl ?_); k_extra "ol1") | ((fail_if_success fail_if_success refine oXe ?_); k_extra "oe1") | k_extra "oin") | fail)
  k_with "S_fit" => (first | omega | ((simp only [S_len, List.length_append, List.length_cons, List.length_nil, List.length_take, List.length_drop, dots, PySem.sizeLine_eq]); omega))
  k_with "call builtin:len" => (((with_reducible show wpAny _ _ (call (Value.builtin "len") [Value.str (S _) _]) _ _ _); refine r_len (by walk_at "S_fit") ?_))
  k_with "call builtin:str.startswith" => (((with_reducible show wpAny _ _ (call (Value.builtin "str.startswith") [Value.str (S _) _, Value.str (S _) _]) _ _ _); refine r_starts ?_))
  k_with "call builtin:str.endswith" => (((with_reducible show wpAny _ _ (call (Value.builtin "str.endswith") [Value.str (S _) _, Value.str (S _) _]) _ _ _); refine r_ends ?_))
  k_with "truthy str" => (((with_reducible show wpAny _ _ (truthy (Value.str (S _) _)) _ _ _); refine r_truthy (by walk_at "S_fit") ?_))
  k_with "exec For Name Name cons nil" => ((k_here; (rename Fr _ _ _ _ => Z6Xa); (with_unfolding_all refine' For_invVF Z6Xa ?Q6Xa ?Q6Xb ?_; (case Q6Xa => exact rfl); (case Q6Xb => exact rfl); k_whole)))
  k_with "pyIter ref" => (((with_reducible show wpAny _ _ (pyIter (Value.ref _)) (fun it s₂ => LoopAtV _ _ _ _ _ _ _ _ _ it s₂) _ _); k_listUnr))
  k_with "S_enter" => ((refine' code_defG (news := []) ?Q8Xa ?Q8Xb ?Q8Xc ?Q8Xd ?Q8Xe ?Q8Xf ?Q8Xg ?Q8Xh ?Q8Xi ?Q8Xj ?Q8Xk ?Q8Xl ?Q8Xm ?_ ?Q8Xn ?Q8Xo ?Q8Xp ?Q8Xq; (case Q8Xf => exact rfl); (case Q8Xg => exact rfl); (case Q8Xh => assumption); (case Q8Xa => k_asm); (case Q8Xb => k_asm); (case Q8Xc => k_asm); (case Q8Xd => exact News.nil); (case Q8Xe => k_asm); (case Q8Xi => k_is); (case Q8Xj => k_is); (case Q8Xk => ktr_room); (case Q8Xl => exact BindsTo.of_eq rfl); (case Q8Xq => decide); (case Q8Xm => exact locs rfl); (case Q8Xn => exact rfl); (case Q8Xo => exact rfl); (case Q8Xp => exact rfl); k_whole; intro Z8Xh Z8Xd Z8Xi Z8Xc Z8Xb Z8Xe Z8Xa Z8Xg Z8Xf Z8Xj; (try dsimp only [List.map_nil] at Z8Xj); (try dsimp only); (try k_lift Z8Xa); (try k_fold)))
  k_with "S_look" => (first | exact rfl | assumption | exact (if_pos rfl) | (refine (if_neg (by decide)).trans ?_; walk_at "S_look"))
  k_with "eval Name" => ((k_here; k_dflt (refine' nameX_L ?QaXa ?QaXb ?_ ?QaXc ?QaXd; (case QaXa => k_asm); (case QaXc => rfl); (case QaXd => rfl); (case QaXb => walk_at "S_look"); k_whole)))
  k_with "S_lit" => (first | (with_reducible exact lit_dots) | (with_reducible rfl))
  k_with "S_nn" => (first | omega | ((simp only [List.length_append, List.length_cons, List.length_nil, List.length_take, List.length_drop, dots] at *); omega))
  k_with "binaryOp Add str str" => (((with_reducible show wpAny _ _ (binaryOp _ (Value.str _ _) (Value.str _ _)) _ _ _); k_dflt (refine r_add (by walk_at "S_lit") (by walk_at "S_lit") (by walk_at "S_fit") ?_); intro _ _))
  k_with "subscriptTail Name Slice str ref" => (((with_reducible show wpAny _ _ (subscriptTail _ (Expr.Slice none (some _) none _) (Value.str (S _) _) _) _ _ _); (with_reducible rename Fr _ _ _ _ => ZeXa); (with_reducible rename News _ _ _ _ => ZeXb); (refine r_sliceTo (s := ⟨_, _, _, _, _⟩) ZeXa ZeXb (by walk_at "S_nn") (by walk_at "S_fit") ?_); intro _ _ _ _ _))
  k_with "subscriptTail Name Slice str ref" => (((with_reducible show wpAny _ _ (subscriptTail _ (Expr.Slice (some _) none none _) (Value.str (S _) _) _) _ _ _); (with_reducible rename Fr _ _ _ _ => ZfXa); (with_reducible rename News _ _ _ _ => ZfXb); (refine r_sliceFrom (s := ⟨_, _, _, _, _⟩) ZfXa ZfXb (by walk_at "S_nn") (by walk_at "S_fit") ?_); intro _ _ _ _ _))
  k_with "exec For Name Call cons nil" => ((k_here; (rename Fr _ _ _ _ => ZgXa); (with_unfolding_all refine' For_invVF ZgXa ?QgXa ?QgXb ?_; (case QgXa => exact rfl); (case QgXb => exact rfl); k_whole)))
  k_with "S_use" => ((refine' pcon_use ?QhXa ?QhXb ?QhXc ?QhXd ?QhXe ?QhXf ?QhXg ?QhXh ?_; (case QhXb => k_asm); (case QhXc => k_asm); (case QhXd => k_asm); (case QhXe => k_asm); (case QhXa => walk_at "S_con"); (case QhXf => first | exact rfl | assumption); (case QhXg => ktr_room); (case QhXh => ktr_units)))
  k_with "call ref" => ((k_here; k_dflt (walk_at "S_use"); intro ZiXf ZiXd ZiXe ZiXb; (have ZiXa := Fr.keeps (by k_asm) ZiXb); (have ZiXc := News.grown (by k_asm) ZiXb); walk_at "S_back" <;> ((try dsimp only); (try k_fold))))
  k_with "pyIter ref" => (k_extra "S_loop")
  k_with "S_bool" => ((intro ZkXa; (rcases bool_or ZkXa with ⟨R8, R7⟩ | ⟨R8, R7⟩) <;> subst R7))
  k_with "call builtin:list.append" => ((k_here; (with_reducible show wpAny _ _ (call (Value.builtin _) [Value.ref _, _]) _ _ _); k_dflt (refine' append_K ?QlXa ?QlXb ?QlXc ?_ ?QlXd; (case QlXa => k_asm); (case QlXb => k_asm); (case QlXc => k_upd); (case QlXd => exact size_ok (k := 100000) (by omega) (by decide)); k_whole); intro ZlXc ZlXa ZlXb; (try k_sweep)))
  k_with "m_k_room" => (ktr_room)
  k_with "m_k_units" => (ktr_units)
  k_with "S_enterM" => ((refine' code_defG ?QoXa ?QoXb ?QoXc ?QoXd ?QoXe ?QoXf ?QoXg ?QoXh ?QoXi ?QoXj ?QoXk ?QoXl ?QoXm ?_ ?QoXn ?QoXo ?QoXp ?QoXq; (case QoXf => exact rfl); (case QoXg => exact rfl); (case QoXh => assumption); (case QoXa => k_asm); (case QoXb => k_asm); (case QoXc => k_asm); (case QoXd => k_asm); (case QoXe => k_asm); (case QoXi => k_is); (case QoXj => k_is); (case QoXk => ktr_room); (case QoXl => exact BindsTo.of_eq rfl); (case QoXq => decide); (case QoXm => exact locs rfl); (case QoXn => exact rfl); (case QoXo => exact rfl); (case QoXp => exact rfl); k_whole; intro ZoXh ZoXd ZoXi ZoXc ZoXb ZoXe ZoXa ZoXg ZoXf ZoXj; (try dsimp only [List.map_nil, List.map_cons] at ZoXj); (try dsimp only); (try k_lift ZoXa); (try k_fold)))
  k_with "callWith" => (((with_reducible show wpAny _ _ (callWith _ (Prod.fst _) (Prod.snd _) _ _) _ _ _); dsimp only))
  k_with "S_int" => (first | omega | decide | ((simp only [List.length_cons, List.length_nil, decide_eq_true_eq, decide_eq_false_iff_not, beq_iff_eq, beq_eq_false_iff_ne, ne_eq, Int.not_lt, Int.not_le] at *); omega))
  k_with "binaryOp FloorDiv int int" => (((with_reducible show wpAny _ _ (binaryOp _ (Value.int _ _) (Value.int _ _)) _ _ _); k_dflt (refine r_fdiv (by walk_at "S_int") (by walk_at "S_int") ?_); intro _ _))
  k_with "binaryOp Mod int int" => (((with_reducible show wpAny _ _ (binaryOp _ (Value.int _ _) (Value.int _ _)) _ _ _); k_dflt (refine r_fmod (by walk_at "S_int") ?_); intro _ _))
  k_with "S_item" => (((with_reducible show wpAny _ _ (subscriptTail _ _ (Value.str (S _) _) (Value.int _ _)) _ _ _); k_dflt (refine r_item (by walk_at "S_int") (by walk_at "S_int") (by walk_at "S_fit") ?_); intro _ _))
  k_with "subscriptTail Name BinOp str int" => (walk_at "S_item")
  k_with "subscriptTail Name Constant str int" => (walk_at "S_item")
  k_with "subscriptTail Name Name str int" => (walk_at "S_item")
  k_with "S_lit" => (first | (with_reducible exact lit_dots) | (with_reducible exact lit_empty) | (with_reducible exact lit34) | (with_reducible exact lit9234) | (with_reducible exact lit92) | (with_reducible exact lit10) | (with_reducible exact lit38) | (with_reducible exact lit59) | (with_reducible rfl))
  k_with "call builtin:str.replace" => (((with_reducible show wpAny _ _ (call (Value.builtin _) [Value.str (S _) _, Value.str _ _, Value.str _ _]) _ _ _); k_dflt (refine r_replace (by walk_at "S_lit") (by walk_at "S_lit") (by decide) (Nat.succ_ne_zero _) (Nat.succ_ne_zero _) (Nat.ne_of_lt (Nat.lt_succ_self _)) (by decide) (by walk_at "S_nn") ?_); intro _ _))
  k_with "call builtin:str.join" => ((k_here; (with_reducible show wpAny _ _ (call (Value.builtin _) [Value.str _ _, Value.ref _]) _ _ _); k_dflt (refine r_join (by walk_at "S_lit") (by walk_at "S_isl") (by walk_at "S_strs") (by walk_at "S_sum") ?_); intro _ _))
  k_with "S_isl" => (first | assumption | exact ⟨LCg.lst _, News.get (by k_asm) (by k_mem), rfl, _, rfl⟩ | is_list)
  k_with "S_strs" => (first | exact StrsAre.nil | assumption | (exact CharsAre.strs (by assumption)))
  k_with "binaryOp Mult str int" => (((with_reducible show wpAny _ _ (binaryOp _ (Value.str (S _) _) (Value.int _ _)) _ _ _); k_dflt (refine r_mul (by walk_at "S_int") (by walk_at "S_int") (by walk_at "S_nn") ?_); intro _ _))
  k_with "S_enterC" => ((refine' code_defCG ?Q13Xa ?Q13Xb ?Q13Xc ?Q13Xd ?Q13Xe ?Q13Xf ?Q13Xg ?Q13Xh ?Q13Xi ?Q13Xj ?Q13Xk ?Q13Xl ?Q13Xm ?Q13Xn ?_ ?Q13Xo ?Q13Xp ?Q13Xq; (case Q13Xf => exact rfl); (case Q13Xg => exact rfl); (case Q13Xh => assumption); (case Q13Xa => k_asm); (case Q13Xb => k_asm); (case Q13Xc => k_asm); (case Q13Xd => k_asm); (case Q13Xe => k_asm); (case Q13Xi => k_is); (case Q13Xj => k_is); (case Q13Xk => ktr_room); (case Q13Xl => exact BindsTo.of_eq rfl); (case Q13Xm => rfl); (case Q13Xn => decide); (case Q13Xo => exact rfl); (case Q13Xp => exact rfl); (case Q13Xq => exact rfl); k_whole; intro Z13Xj Z13Xd Z13Xk Z13Xo Z13Xi Z13Xc Z13Xb Z13Xe Z13Xh Z13Xa Z13Xg Z13Xf Z13Xm Z13Xl Z13Xn; (try dsimp only [List.map_nil, List.map_cons] at Z13Xl); (try k_lt Z13Xm); k_cells Z13Xh; (try simp only [List.cons_append, List.nil_append] at Z13Xe); (try dsimp only); (try k_lift Z13Xa); (try k_fold)))
  k_with "S_lcs" => ((k_here; k_dflt (refine ListComp_S (_F₀ := by k_asm) (by rfl) (by decide) (by rfl) (by decide) (by rfl) ?_)))
  k_with "S_lit" => (first | (with_reducible exact lit_dots) | (with_reducible exact lit_empty) | (with_reducible exact lit34) | (with_reducible exact lit9234) | (with_reducible exact lit92) | (with_reducible exact lit10) | (with_reducible exact lit38) | (with_reducible exact lit59) | (with_reducible exact lit60) | (with_reducible exact lit62) | (with_reducible exact lit13) | (with_reducible exact lit9) | (with_reducible exact litamp) | (with_reducible exact litlt) | (with_reducible exact litgt) | (with_reducible exact litquot) | (with_reducible rfl))
  k_with "S_sum" => (assumption)
  k_with "call type:list" => ((k_here; (with_reducible show wpAny _ _ (call (Value.type "list") [Value.str (S _) _]) _ _ _); k_dflt (refine' r_listStr ?Q17Xa ?Q17Xb ?Q17Xc ?Q17Xd ?_; (case Q17Xa => exact rfl); (case Q17Xb => k_asm); (case Q17Xc => k_asm); (case Q17Xd => walk_at "S_fit")); intro Z17Xa Z17Xd Z17Xi Z17Xe Z17Xh Z17Xb Z17Xc Z17Xg Z17Xf; (try k_lt Z17Xg)))
  k_with "call builtin:list.reverse" => ((k_here; (with_reducible show wpAny _ _ (call (Value.builtin _) [Value.ref _]) _ _ _); k_dflt (refine' kl_reverse ?Q18Xa ?Q18Xb ?Q18Xc ?Q18Xd ?Q18Xe ?_; (case Q18Xa => k_asm); (case Q18Xb => k_asm); (case Q18Xd => k_upd); (case Q18Xc => exact rfl); (case Q18Xe => walk_at "S_size")); intro Z18Xc Z18Xa Z18Xb; (try k_sweep)))
  k_with "S_size" => (((have Z19Xa := CharsAre.length (by assumption)); simp only [PySem.sizeLine_eq]; omega))
  trivial
theorem con_reader {w : World} {p loose mean mg mb} (page : List Nat) (tt : Tok) (ht : page.length ≤ 900)
    {dp un : Nat} {gd : Option (List Code)} {cn : PySem.Str} {cs : Scope} {a : Addr} {ccd : Value} {cl : List (PySem.Str × Addr)} {outer : List Env} {A₀ : Around} {base h₀ : Heap} {L : Addr} {m : PySem.Str → Option Value} {s : Shared} {Q E : Value → Shared → Prop}
    (hB : Below A₀ base outer h₀) (hF : Fr h₀ L s.heap m) (hX : (hd.heap_1 w.params).In h₀) (hT : Top p loose mean mg mb h₀) (hk : cs.kind = .function) (hr : dp + 6 < recursionLimit) (hu : un + 16 * 6 < cLine)
    (hC : CodeHd base 111 107) (hN : News h₀ L s.heap [(107, tabObj #[])])
    (hret : ∀ (r : RP) (tl : Tok) (kp : Nat) (lf : List Value) (kl : Nat) (ps : Array Value) (h' : Heap) (tk' : Nat), r.Ok → CharsAre lf page.reverse → Fr h₀ L h' m → News h₀ L h' (rdr 154 w.params r 1 tl [] kp lf kl ++ [(107, tabObj ps)]) → KeptBut [107] s.heap h' →
      (∀ q ∈ rdr 154 w.params r 1 tl [] kp lf kl, @LE.le Nat _ s.heap.objs.size q.1) → Q (.ref r.aR) { s with heap := h', toks := tk' }) :
    wpAny (model Challenge.pw_sc0056_01 w) (ktrTop dp un gd cn cs L a ccd cl outer) (call (.ref 112) [.str (S page) tt]) Q E s := by
  refine wpAny_call ?_
  k_dflt (walk_at "S_enterC")
  (try clear sfl)
  k_steps
  rename News _ _ _ _ => N9
  revert N9
  rename News _ _ _ _ => N8
  intro N9
  rename GSub _ _ _ => G9
  rename CharsAre _ page => hCh
  rename _ = Data.fields _ => hd1
  rename _ = some (Value.str _ _) => hd2
  rename _ = Data.cell (some (Value.ref _)) => hd3
  refine hret (RP.mk _ _ _ _ _ _ _ _ _ _ _ _ _ _ _ _ _ _ _ _ _ _ _ _ _ _ _ _ _) _ _ _ _ _ _ _ (RP.Ok.mk hd1 hd2 hd3 (by dsimp only; omega) (by dsimp only; omega) (by dsimp only; omega) (by dsimp only; omega) (by dsimp only; omega) (by dsimp only; omega) (by dsimp only; omega) (by dsimp only; omega) (by dsimp only; omega)) hCh.reverse (by assumption) N9 (mc_kept G9 (by assumption)) ?fr
  case fr =>
    intro q hq
    rename @LE.le Nat _ _ _ => lz
    simp only [rdr, rdr7, List.mem_cons, List.not_mem_nil, or_false] at hq
    rcases hq with rfl | rfl | rfl | rfl | rfl | rfl | rfl | rfl | rfl | rfl <;> (dsimp only; omega)
end
section
local macro_rules | `(tactic| walk_at "zz0") => `(tactic| fail)
local macro_rules | `(tactic| walk_at "zz1") => `(tactic| fail)
local macro_rules | `(tactic| walk_at "zz2") => `(tactic| fail)
example : True := by
  k_with_none
  w_top off
  k_with "olt" => (first | assumption | ((fail_if_success refine oM ?_); refine oL ?_; k_extra "ole") | k_extra "olh")
  k_with "olh" => (refine oH (by assumption) (by k_extra "ole"))
  k_with "ole" => (first | exact Nat.le_refl _ | assumption | exact oB | ((first | refine oA ?_ | refine oA2 ?_ | refine oA3 ?_); k_extra "ocl") | (refine oS ?_; k_extra "ole") | (refine Nat.le_of_lt ?_; (first | assumption | k_extra "olh")) | exact oE)
  k_with "olt2" => (first | k_extra "oas" | ((fail_if_success refine oM ?_); refine oL ?_; k_extra "ole2") | k_extra "olh2")
  k_with "olh2" => (refine oH (by k_extra "oas") (by k_extra "ole2"))
  k_with "ole2" => (first | exact Nat.le_refl _ | k_extra "oas" | exact oB | ((first | refine oA ?_ | refine oA2 ?_ | refine oA3 ?_); k_extra "ocl") | (refine oS ?_; k_extra "ole2") | (refine Nat.le_of_lt ?_; (first | k_extra "oas" | k_extra "olh2")) | exact oE)
  k_with "opu" => (first | exact oB | exact Nat.le_refl _ | (refine oS ?_; k_extra "opu"))
  k_with "olt0" => (refine oL ?_; k_extra "opu")
  k_with "one" => (first | (refine Nat.ne_of_gt ?_; (fail_if_success refine oM ?_); k_extra "olt0") | (refine Nat.ne_of_lt ?_; (fail_if_success refine oM ?_); k_extra "olt0") | exact Ne.symm (by assumption) | (refine Nat.ne_of_gt ?_; (fail_if_success refine oM ?_); k_extra "oas") | (refine Nat.ne_of_lt ?_; (fail_if_success refine oM ?_); k_extra "oas") | (refine Nat.ne_of_gt ?_; (fail_if_success refine oM ?_); k_extra "odd") | (refine Nat.ne_of_lt ?_; (fail_if_success refine oM ?_); k_extra "odd") | (refine Nat.ne_of_gt ?_; (fail_if_success refine oM ?_); k_extra "olt") | (refine Nat.ne_of_lt ?_; (fail_if_success refine oM ?_); k_extra "olt") | (refine Nat.ne_of_gt ?_; (fail_if_success refine oM ?_); k_extra "olt2") | (refine Nat.ne_of_lt ?_; (fail_if_success refine oM ?_); k_extra "olt2") | decide)
  k_with "ol1" => (first | ((fail_if_success refine oM ?_); first | k_extra "oas" | k_extra "olt0" | k_extra "odd" | k_extra "olt" | k_extra "olt2") | k_extra "ocl" | exact oT0 | exact oT5)
  k_with "oe1" => (first | ((fail_if_success refine oN ?_); first | k_extra "oas" | k_extra "opu" | k_extra "ole" | k_extra "ole2" | exact oE (by k_extra "oas")) | k_extra "ocl" | k_extra "olit" | k_extra "oas")
  k_with "olit" => (first | exact oT4 | exact oP | exact oP2 | exact oT1 | exact oT2 | exact oT3 | exact oQ5 | exact oQ1 | exact oQ2 | exact oQ3 | exact oQ4 | exact oQ6 | exact oD)
  k_with "ocl" => (with_unfolding_all exact Nat.le_of_ble_eq_true rfl)
  k_with "oas" => (first | assumption | exact oa1 | exact ob1 | exact oa2 | exact ob2 | exact oa3 | exact ob3 | exact oa4 | exact ob4 | exact oa5 | exact ob5 | exact oa6 | exact ob6 | exact oa7 | exact ob7)
  k_with "odd" => (first | exact oa1 ob7 | exact oa2 ob7 | exact oa3 ob7 | exact oa4 ob7 | exact oa5 ob7 | exact oa6 ob7 | exact oa7 ob7 | exact oa1 (ob7 ob7) | exact oa2 (ob7 ob7) | exact oa3 (ob7 ob7) | exact oa4 (ob7 ob7) | exact oa5 (ob7 ob7) | exact oa6 (ob7 ob7) | exact oa7 (ob7 ob7) | exact ob1 ob7 | exact ob2 ob7 | exact ob3 ob7 | exact ob4 ob7 | exact ob5 ob7 | exact ob6 ob7 | exact ob7 ob7)
  k_with "oin" => (first | decide | exact oI1 | exact oI3 | exact oI2 (by k_extra "oas"))
  k_with "om" => (with_reducible first | (first | assumption | ((fail_if_success fail_if_success refine oXn ?_); k_extra "one") | ((fail_if_success fail_if_success refine oXl ?_); k_extra "ol1") | ((fail_if_success fail_if_success refine oXe ?_); k_extra "oe1") | k_extra "oin") | fail)
  k_with "S_fit" => (first | omega | ((simp only [S_len, List.length_append, List.length_cons, List.length_nil, List.length_take, List.length_drop, dots, PySem.sizeLine_eq]); omega))
  k_with "call builtin:len" => (((with_reducible show wpAny _ _ (call (Value.builtin "len") [Value.str (S _) _]) _ _ _); refine r_len (by walk_at "S_fit") ?_))
  k_with "call builtin:str.startswith" => (((with_reducible show wpAny _ _ (call (Value.builtin "str.startswith") [Value.str (S _) _, Value.str (S _) _]) _ _ _); refine r_starts ?_))
  k_with "call builtin:str.endswith" => (((with_reducible show wpAny _ _ (call (Value.builtin "str.endswith") [Value.str (S _) _, Value.str (S _) _]) _ _ _); refine r_ends ?_))
  k_with "truthy str" => (((with_reducible show wpAny _ _ (truthy (Value.str (S _) _)) _ _ _); refine r_truthy (by walk_at "S_fit") ?_))
  k_with "exec For Name Name cons nil" => ((k_here; (rename Fr _ _ _ _ => Z6Xa); (with_unfolding_all refine' For_invVF Z6Xa ?Q6Xa ?Q6Xb ?_; (case Q6Xa => exact rfl); (case Q6Xb => exact rfl); k_whole)))
  k_with "pyIter ref" => (((with_reducible show wpAny _ _ (pyIter (Value.ref _)) (fun it s₂ => LoopAtV _ _ _ _ _ _ _ _ _ it s₂) _ _); k_listUnr))
  k_with "S_enter" => ((refine' code_defG (news := []) ?Q8Xa ?Q8Xb ?Q8Xc ?Q8Xd ?Q8Xe ?Q8Xf ?Q8Xg ?Q8Xh ?Q8Xi ?Q8Xj ?Q8Xk ?Q8Xl ?Q8Xm ?_ ?Q8Xn ?Q8Xo ?Q8Xp ?Q8Xq; (case Q8Xf => exact rfl); (case Q8Xg => exact rfl); (case Q8Xh => assumption); (case Q8Xa => k_asm); (case Q8Xb => k_asm); (case Q8Xc => k_asm); (case Q8Xd => exact News.nil); (case Q8Xe => k_asm); (case Q8Xi => k_is); (case Q8Xj => k_is); (case Q8Xk => ktr_room); (case Q8Xl => exact BindsTo.of_eq rfl); (case Q8Xq => decide); (case Q8Xm => exact locs rfl); (case Q8Xn => exact rfl); (case Q8Xo => exact rfl); (case Q8Xp => exact rfl); k_whole; intro Z8Xh Z8Xd Z8Xi Z8Xc Z8Xb Z8Xe Z8Xa Z8Xg Z8Xf Z8Xj; (try dsimp only [List.map_nil] at Z8Xj); (try dsimp only); (try k_lift Z8Xa); (try k_fold)))
  k_with "S_look" => (first | exact rfl | assumption | exact (if_pos rfl) | (refine (if_neg (by decide)).trans ?_; walk_at "S_look"))
  k_with "eval Name" => ((k_here; k_dflt (refine' nameX_L ?QaXa ?QaXb ?_ ?QaXc ?QaXd; (case QaXa => k_asm); (case QaXc => rfl); (case QaXd => rfl); (case QaXb => walk_at "S_look"); k_whole)))
  k_with "S_lit" => (first | (with_reducible exact lit_dots) | (with_reducible rfl))
  k_with "S_nn" => (first | omega | ((simp only [List.length_append, List.length_cons, List.length_nil, List.length_take, List.length_drop, dots] at *); omega))
  k_with "binaryOp Add str str" => (((with_reducible show wpAny _ _ (binaryOp _ (Value.str _ _) (Value.str _ _)) _ _ _); k_dflt (refine r_add (by walk_at "S_lit") (by walk_at "S_lit") (by walk_at "S_fit") ?_); intro _ _))
  k_with "subscriptTail Name Slice str ref" => (((with_reducible show wpAny _ _ (subscriptTail _ (Expr.Slice none (some _) none _) (Value.str (S _) _) _) _ _ _); (with_reducible rename Fr _ _ _ _ => ZeXa); (with_reducible rename News _ _ _ _ => ZeXb); (refine r_sliceTo (s := ⟨_, _, _, _, _⟩) ZeXa ZeXb (by walk_at "S_nn") (by walk_at "S_fit") ?_); intro _ _ _ _ _))
  k_with "subscriptTail Name Slice str ref" => (((with_reducible show wpAny _ _ (subscriptTail _ (Expr.Slice (some _) none none _) (Value.str (S _) _) _) _ _ _); (with_reducible rename Fr _ _ _ _ => ZfXa); (with_reducible rename News _ _ _ _ => ZfXb); (refine r_sliceFrom (s := ⟨_, _, _, _, _⟩) ZfXa ZfXb (by walk_at "S_nn") (by walk_at "S_fit") ?_); intro _ _ _ _ _))
  k_with "exec For Name Call cons nil" => ((k_here; (rename Fr _ _ _ _ => ZgXa); (with_unfolding_all refine' For_invVF ZgXa ?QgXa ?QgXb ?_; (case QgXa => exact rfl); (case QgXb => exact rfl); k_whole)))
  k_with "S_use" => ((refine' pcon_use ?QhXa ?QhXb ?QhXc ?QhXd ?QhXe ?QhXf ?QhXg ?QhXh ?_; (case QhXb => k_asm); (case QhXc => k_asm); (case QhXd => k_asm); (case QhXe => k_asm); (case QhXa => walk_at "S_con"); (case QhXf => first | exact rfl | assumption); (case QhXg => ktr_room); (case QhXh => ktr_units)))
  k_with "call ref" => ((k_here; k_dflt (walk_at "S_use"); intro ZiXf ZiXd ZiXe ZiXb; (have ZiXa := Fr.keeps (by k_asm) ZiXb); (have ZiXc := News.grown (by k_asm) ZiXb); walk_at "S_back" <;> ((try dsimp only); (try k_fold))))
  k_with "pyIter ref" => (k_extra "S_loop")
  k_with "S_bool" => ((intro ZkXa; (rcases bool_or ZkXa with ⟨R8, R7⟩ | ⟨R8, R7⟩) <;> subst R7))
  k_with "call builtin:list.append" => ((k_here; (with_reducible show wpAny _ _ (call (Value.builtin _) [Value.ref _, _]) _ _ _); k_dflt (refine' append_K ?QlXa ?QlXb ?QlXc ?_ ?QlXd; (case QlXa => k_asm); (case QlXb => k_asm); (case QlXc => k_upd); (case QlXd => exact size_ok (k := 100000) (by omega) (by decide)); k_whole); intro ZlXc ZlXa ZlXb; (try k_sweep)))
  k_with "m_k_room" => (ktr_room)
  k_with "m_k_units" => (ktr_units)
  k_with "S_enterM" => ((refine' code_defG ?QoXa ?QoXb ?QoXc ?QoXd ?QoXe ?QoXf ?QoXg ?QoXh ?QoXi ?QoXj ?QoXk ?QoXl ?QoXm ?_ ?QoXn ?QoXo ?QoXp ?QoXq; (case QoXf => exact rfl); (case QoXg => exact rfl); (case QoXh => assumption); (case QoXa => k_asm); (case QoXb => k_asm); (case QoXc => k_asm); (case QoXd => k_asm); (case QoXe => k_asm); (case QoXi => k_is); (case QoXj => k_is); (case QoXk => ktr_room); (case QoXl => exact BindsTo.of_eq rfl); (case QoXq => decide); (case QoXm => exact locs rfl); (case QoXn => exact rfl); (case QoXo => exact rfl); (case QoXp => exact rfl); k_whole; intro ZoXh ZoXd ZoXi ZoXc ZoXb ZoXe ZoXa ZoXg ZoXf ZoXj; (try dsimp only [List.map_nil, List.map_cons] at ZoXj); (try dsimp only); (try k_lift ZoXa); (try k_fold)))
  k_with "callWith" => (((with_reducible show wpAny _ _ (callWith _ (Prod.fst _) (Prod.snd _) _ _) _ _ _); dsimp only))
  k_with "S_int" => (first | omega | decide | ((simp only [List.length_cons, List.length_nil, decide_eq_true_eq, decide_eq_false_iff_not, beq_iff_eq, beq_eq_false_iff_ne, ne_eq, Int.not_lt, Int.not_le] at *); omega))
  k_with "binaryOp FloorDiv int int" => (((with_reducible show wpAny _ _ (binaryOp _ (Value.int _ _) (Value.int _ _)) _ _ _); k_dflt (refine r_fdiv (by walk_at "S_int") (by walk_at "S_int") ?_); intro _ _))
  k_with "binaryOp Mod int int" => (((with_reducible show wpAny _ _ (binaryOp _ (Value.int _ _) (Value.int _ _)) _ _ _); k_dflt (refine r_fmod (by walk_at "S_int") ?_); intro _ _))
  k_with "S_item" => (((with_reducible show wpAny _ _ (subscriptTail _ _ (Value.str (S _) _) (Value.int _ _)) _ _ _); k_dflt (refine r_item (by walk_at "S_int") (by walk_at "S_int") (by walk_at "S_fit") ?_); intro _ _))
  k_with "subscriptTail Name BinOp str int" => (walk_at "S_item")
  k_with "subscriptTail Name Constant str int" => (walk_at "S_item")
  k_with "subscriptTail Name Name str int" => (walk_at "S_item")
  k_with "S_lit" => (first | (with_reducible exact lit_dots) | (with_reducible exact lit_empty) | (with_reducible exact lit34) | (with_reducible exact lit9234) | (with_reducible exact lit92) | (with_reducible exact lit10) | (with_reducible exact lit38) | (with_reducible exact lit59) | (with_reducible rfl))
  k_with "call builtin:str.replace" => (((with_reducible show wpAny _ _ (call (Value.builtin _) [Value.str (S _) _, Value.str _ _, Value.str _ _]) _ _ _); k_dflt (refine r_replace (by walk_at "S_lit") (by walk_at "S_lit") (by decide) (Nat.succ_ne_zero _) (Nat.succ_ne_zero _) (Nat.ne_of_lt (Nat.lt_succ_self _)) (by decide) (by walk_at "S_nn") ?_); intro _ _))
  k_with "call builtin:str.join" => ((k_here; (with_reducible show wpAny _ _ (call (Value.builtin _) [Value.str _ _, Value.ref _]) _ _ _); k_dflt (refine r_join (by walk_at "S_lit") (by walk_at "S_isl") (by walk_at "S_strs") (by walk_at "S_sum") ?_); intro _ _))
  k_with "S_isl" => (first | assumption | exact ⟨LCg.lst _, News.get (by k_asm) (by k_mem), rfl, _, rfl⟩ | is_list)
  k_with "S_strs" => (first | exact StrsAre.nil | assumption | (exact CharsAre.strs (by assumption)))
  k_with "binaryOp Mult str int" => (((with_reducible show wpAny _ _ (binaryOp _ (Value.str (S _) _) (Value.int _ _)) _ _ _); k_dflt (refine r_mul (by walk_at "S_int") (by walk_at "S_int") (by walk_at "S_nn") ?_); intro _ _))
  k_with "S_enterC" => ((refine' code_defCG ?Q13Xa ?Q13Xb ?Q13Xc ?Q13Xd ?Q13Xe ?Q13Xf ?Q13Xg ?Q13Xh ?Q13Xi ?Q13Xj ?Q13Xk ?Q13Xl ?Q13Xm ?Q13Xn ?_ ?Q13Xo ?Q13Xp ?Q13Xq; (case Q13Xf => exact rfl); (case Q13Xg => exact rfl); (case Q13Xh => assumption); (case Q13Xa => k_asm); (case Q13Xb => k_asm); (case Q13Xc => k_asm); (case Q13Xd => k_asm); (case Q13Xe => k_asm); (case Q13Xi => k_is); (case Q13Xj => k_is); (case Q13Xk => ktr_room); (case Q13Xl => exact BindsTo.of_eq rfl); (case Q13Xm => rfl); (case Q13Xn => decide); (case Q13Xo => exact rfl); (case Q13Xp => exact rfl); (case Q13Xq => exact rfl); k_whole; intro Z13Xj Z13Xd Z13Xk Z13Xo Z13Xi Z13Xc Z13Xb Z13Xe Z13Xh Z13Xa Z13Xg Z13Xf Z13Xm Z13Xl Z13Xn; (try dsimp only [List.map_nil, List.map_cons] at Z13Xl); (try k_lt Z13Xm); k_cells Z13Xh; (try simp only [List.cons_append, List.nil_append] at Z13Xe); (try dsimp only); (try k_lift Z13Xa); (try k_fold)))
  k_with "S_lcs" => ((k_here; k_dflt (refine ListComp_S (_F₀ := by k_asm) (by rfl) (by decide) (by rfl) (by decide) (by rfl) ?_)))
  k_with "S_lit" => (first | (with_reducible exact lit_dots) | (with_reducible exact lit_empty) | (with_reducible exact lit34) | (with_reducible exact lit9234) | (with_reducible exact lit92) | (with_reducible exact lit10) | (with_reducible exact lit38) | (with_reducible exact lit59) | (with_reducible exact lit60) | (with_reducible exact lit62) | (with_reducible exact lit13) | (with_reducible exact lit9) | (with_reducible exact litamp) | (with_reducible exact litlt) | (with_reducible exact litgt) | (with_reducible exact litquot) | (with_reducible rfl))
  k_with "S_sum" => (assumption)
  k_with "pyIter str" => ((k_here; (with_reducible show wpAny _ _ (pyIter (Value.str (S _) _)) (CompPost _ _ _ _ _ _ _ _ _) _ _); (rename Fr _ _ _ _ => Z17Xc); (rename News _ _ _ _ => Z17Xd); k_dflt (refine' r_compS (fun Z17Xe => [92, Z17Xe]) ?Q17Xa Z17Xc Z17Xd ?Q17Xb ?Q17Xc ?Q17Xd; (case Q17Xa => exact rfl); (case Q17Xb => walk_at "S_fit")); (case' Q17Xd => intros); (case' Q17Xc => (intro Z17Xa Z17Xe Z17Xk Z17Xj Z17Xi Z17Xb Z17Xf Z17Xh Z17Xg; refine wpAny_leafK ?_))))
  k_with "S_sum" => (assumption)
  trivial
theorem con_spelled {w : World} {p loose mean mg mb} (x : List Nat) (t tf : Tok) (f : Int) (hx : x.length ≤ 2) :
    PCon 4 Challenge.pw_sc0056_01 w (hd.heap_1 w.params) p loose mean mg mb 124 [.str (S x) t, .int f tf] (fun _ _ v => ∃ t, v = .str (S (spelledL x f)) t) := by
  have hrep : (rep 34 [92, 34] x).length ≤ 6 * 2 := rep_len (by decide) hx
  have hsum : ((x.map fun c => [92, c]).map (·.length)).sum + (x.map fun c => [92, c]).length ≤ 1000000 := by
    have := sum_le (f := fun c => [92, c]) (B := 2) (fun _ => by simp) x
    rw [List.length_map]; omega
  dsimp only [PCon]
  intros
  rename_i hret
  refine wpAny_call ?_
  k_dflt (walk_at "S_enter")
  (try clear sfl)
  k_steps
  · refine hret _ _ _ (pc_kept (by assumption) (by assumption)) ⟨_, congrArg (Value.str · _) (congrArg S ?_)⟩
    rw [spelledL, if_pos (Or.inl (by walk_at "S_int"))]
  · rename (S x == PySem.Str.ofString "") = true => he
    rw [empty_iff] at he
    refine hret _ _ _ (pc_kept (by assumption) (by assumption)) ⟨_, congrArg (Value.str · _) (congrArg S ?_)⟩
    rw [spelledL, if_pos (Or.inr (of_decide_eq_true he))]
  · rename (S x == PySem.Str.ofString "") = false => he
    rw [empty_iff] at he
    refine hret _ _ _ (pc_kept (by assumption) (by assumption)) ⟨_, congrArg (Value.str · _) (congrArg S ?_)⟩
    rw [spelledL, if_neg (fun h => h.elim (by walk_at "S_int") (of_decide_eq_false he)), List.flatMap_def]
end
section
open PyProof.Rows.LCg
section
example : True := by
  k_with_none
  w_top off
  k_with "olt" => (first | assumption | ((fail_if_success refine oM ?_); refine oL ?_; k_extra "ole") | k_extra "olh")
  k_with "olh" => (refine oH (by assumption) (by k_extra "ole"))
  k_with "ole" => (first | exact Nat.le_refl _ | assumption | exact oB | ((first | refine oA ?_ | refine oA2 ?_ | refine oA3 ?_); k_extra "ocl") | (refine oS ?_; k_extra "ole") | (refine Nat.le_of_lt ?_; (first | assumption | k_extra "olh")) | exact oE)
  k_with "olt2" => (first | k_extra "oas" | ((fail_if_success refine oM ?_); refine oL ?_; k_extra "ole2") | k_extra "olh2")
  k_with "olh2" => (refine oH (by k_extra "oas") (by k_extra "ole2"))
  k_with "ole2" => (first | exact Nat.le_refl _ | k_extra "oas" | exact oB | ((first | refine oA ?_ | refine oA2 ?_ | refine oA3 ?_); k_extra "ocl") | (refine oS ?_; k_extra "ole2") | (refine Nat.le_of_lt ?_; (first | k_extra "oas" | k_extra "olh2")) | exact oE)
  k_with "opu" => (first | exact oB | exact Nat.le_refl _ | (refine oS ?_; k_extra "opu"))
  k_with "olt0" => (refine oL ?_; k_extra "opu")
  k_with "one" => (first | (refine Nat.ne_of_gt ?_; (fail_if_success refine oM ?_); k_extra "olt0") | (refine Nat.ne_of_lt ?_; (fail_if_success refine oM ?_); k_extra "olt0") | exact Ne.symm (by assumption) | (refine Nat.ne_of_gt ?_; (fail_if_success refine oM ?_); k_extra "oas") | (refine Nat.ne_of_lt ?_; (fail_if_success refine oM ?_); k_extra "oas") | (refine Nat.ne_of_gt ?_; (fail_if_success refine oM ?_); k_extra "odd") | (refine Nat.ne_of_lt ?_; (fail_if_success refine oM ?_); k_extra "odd") | (refine Nat.ne_of_gt ?_; (fail_if_success refine oM ?_); k_extra "olt") | (refine Nat.ne_of_lt ?_; (fail_if_success refine oM ?_); k_extra "olt") | (refine Nat.ne_of_gt ?_; (fail_if_success refine oM ?_); k_extra "olt2") | (refine Nat.ne_of_lt ?_; (fail_if_success refine oM ?_); k_extra "olt2") | decide)
  k_with "ol1" => (first | ((fail_if_success refine oM ?_); first | k_extra "oas" | k_extra "olt0" | k_extra "odd" | k_extra "olt" | k_extra "olt2") | k_extra "ocl" | exact oT0 | exact oT5)
  k_with "oe1" => (first | ((fail_if_success refine oN ?_); first | k_extra "oas" | k_extra "opu" | k_extra "ole" | k_extra "ole2" | exact oE (by k_extra "oas")) | k_extra "ocl" | k_extra "olit" | k_extra "oas")
  k_with "olit" => (first | exact oT4 | exact oP | exact oP2 | exact oT1 | exact oT2 | exact oT3 | exact oQ5 | exact oQ1 | exact oQ2 | exact oQ3 | exact oQ4 | exact oQ6 | exact oD)
  k_with "ocl" => (with_unfolding_all exact Nat.le_of_ble_eq_true rfl)
  k_with "oas" => (first | assumption | exact oa1 | exact ob1 | exact oa2 | exact ob2 | exact oa3 | exact ob3 | exact oa4 | exact ob4 | exact oa5 | exact ob5 | exact oa6 | exact ob6 | exact oa7 | exact ob7)
  k_with "odd" => (first | exact oa1 ob7 | exact oa2 ob7 | exact oa3 ob7 | exact oa4 ob7 | exact oa5 ob7 | exact oa6 ob7 | exact oa7 ob7 | exact oa1 (ob7 ob7) | exact oa2 (ob7 ob7) | exact oa3 (ob7 ob7) | exact oa4 (ob7 ob7) | exact oa5 (ob7 ob7) | exact oa6 (ob7 ob7) | exact oa7 (ob7 ob7) | exact ob1 ob7 | exact ob2 ob7 | exact ob3 ob7 | exact ob4 ob7 | exact ob5 ob7 | exact ob6 ob7 | exact ob7 ob7)
  k_with "oin" => (first | decide | exact oI1 | exact oI3 | exact oI2 (by k_extra "oas"))
  k_with "om" => (with_reducible first | (first | assumption | ((fail_if_success fail_if_success refine oXn ?_); k_extra "one") | ((fail_if_success fail_if_success refine oXl ?_); k_extra "ol1") | ((fail_if_success fail_if_success refine oXe ?_); k_extra "oe1") | k_extra "oin") | fail)
  k_with "S_fit" => (first | omega | ((simp only [S_len, List.length_append, List.length_cons, List.length_nil, List.length_take, List.length_drop, dots, PySem.sizeLine_eq]); omega))
  k_with "call builtin:len" => (((with_reducible show wpAny _ _ (call (Value.builtin "len") [Value.str (S _) _]) _ _ _); refine r_len (by walk_at "S_fit") ?_))
  k_with "call builtin:str.startswith" => (((with_reducible show wpAny _ _ (call (Value.builtin "str.startswith") [Value.str (S _) _, Value.str (S _) _]) _ _ _); refine r_starts ?_))
  k_with "call builtin:str.endswith" => (((with_reducible show wpAny _ _ (call (Value.builtin "str.endswith") [Value.str (S _) _, Value.str (S _) _]) _ _ _); refine r_ends ?_))
  k_with "truthy str" => (((with_reducible show wpAny _ _ (truthy (Value.str (S _) _)) _ _ _); refine r_truthy (by walk_at "S_fit") ?_))
  k_with "exec For Name Name cons nil" => ((k_here; (rename Fr _ _ _ _ => Z6Xa); (with_unfolding_all refine' For_invVF Z6Xa ?Q6Xa ?Q6Xb ?_; (case Q6Xa => exact rfl); (case Q6Xb => exact rfl); k_whole)))
  k_with "pyIter ref" => (((with_reducible show wpAny _ _ (pyIter (Value.ref _)) (fun it s₂ => LoopAtV _ _ _ _ _ _ _ _ _ it s₂) _ _); k_listUnr))
  k_with "S_enter" => ((refine' code_defG (news := []) ?Q8Xa ?Q8Xb ?Q8Xc ?Q8Xd ?Q8Xe ?Q8Xf ?Q8Xg ?Q8Xh ?Q8Xi ?Q8Xj ?Q8Xk ?Q8Xl ?Q8Xm ?_ ?Q8Xn ?Q8Xo ?Q8Xp ?Q8Xq; (case Q8Xf => exact rfl); (case Q8Xg => exact rfl); (case Q8Xh => assumption); (case Q8Xa => k_asm); (case Q8Xb => k_asm); (case Q8Xc => k_asm); (case Q8Xd => exact News.nil); (case Q8Xe => k_asm); (case Q8Xi => k_is); (case Q8Xj => k_is); (case Q8Xk => ktr_room); (case Q8Xl => exact BindsTo.of_eq rfl); (case Q8Xq => decide); (case Q8Xm => exact locs rfl); (case Q8Xn => exact rfl); (case Q8Xo => exact rfl); (case Q8Xp => exact rfl); k_whole; intro Z8Xh Z8Xd Z8Xi Z8Xc Z8Xb Z8Xe Z8Xa Z8Xg Z8Xf Z8Xj; (try dsimp only [List.map_nil] at Z8Xj); (try dsimp only); (try k_lift Z8Xa); (try k_fold)))
  k_with "S_look" => (first | exact rfl | assumption | exact (if_pos rfl) | (refine (if_neg (by decide)).trans ?_; walk_at "S_look"))
  k_with "eval Name" => ((k_here; k_dflt (refine' nameX_L ?QaXa ?QaXb ?_ ?QaXc ?QaXd; (case QaXa => k_asm); (case QaXc => rfl); (case QaXd => rfl); (case QaXb => walk_at "S_look"); k_whole)))
  k_with "S_lit" => (first | (with_reducible exact lit_dots) | (with_reducible rfl))
  k_with "S_nn" => (first | omega | ((simp only [List.length_append, List.length_cons, List.length_nil, List.length_take, List.length_drop, dots] at *); omega))
  k_with "binaryOp Add str str" => (((with_reducible show wpAny _ _ (binaryOp _ (Value.str _ _) (Value.str _ _)) _ _ _); k_dflt (refine r_add (by walk_at "S_lit") (by walk_at "S_lit") (by walk_at "S_fit") ?_); intro _ _))
  k_with "subscriptTail Name Slice str ref" => (((with_reducible show wpAny _ _ (subscriptTail _ (Expr.Slice none (some _) none _) (Value.str (S _) _) _) _ _ _); (with_reducible rename Fr _ _ _ _ => ZeXa); (with_reducible rename News _ _ _ _ => ZeXb); (refine r_sliceTo (s := ⟨_, _, _, _, _⟩) ZeXa ZeXb (by walk_at "S_nn") (by walk_at "S_fit") ?_); intro _ _ _ _ _))
  k_with "subscriptTail Name Slice str ref" => (((with_reducible show wpAny _ _ (subscriptTail _ (Expr.Slice (some _) none none _) (Value.str (S _) _) _) _ _ _); (with_reducible rename Fr _ _ _ _ => ZfXa); (with_reducible rename News _ _ _ _ => ZfXb); (refine r_sliceFrom (s := ⟨_, _, _, _, _⟩) ZfXa ZfXb (by walk_at "S_nn") (by walk_at "S_fit") ?_); intro _ _ _ _ _))
  k_with "exec For Name Call cons nil" => ((k_here; (rename Fr _ _ _ _ => ZgXa); (with_unfolding_all refine' For_invVF ZgXa ?QgXa ?QgXb ?_; (case QgXa => exact rfl); (case QgXb => exact rfl); k_whole)))
  k_with "S_use" => ((refine' pcon_use ?QhXa ?QhXb ?QhXc ?QhXd ?QhXe ?QhXf ?QhXg ?QhXh ?_; (case QhXb => k_asm); (case QhXc => k_asm); (case QhXd => k_asm); (case QhXe => k_asm); (case QhXa => walk_at "S_con"); (case QhXf => first | exact rfl | assumption); (case QhXg => ktr_room); (case QhXh => ktr_units)))
  k_with "call ref" => ((k_here; k_dflt (walk_at "S_use"); intro ZiXf ZiXd ZiXe ZiXb; (have ZiXa := Fr.keeps (by k_asm) ZiXb); (have ZiXc := News.grown (by k_asm) ZiXb); walk_at "S_back" <;> ((try dsimp only); (try k_fold))))
  k_with "pyIter ref" => (k_extra "S_loop")
  k_with "S_bool" => ((intro ZkXa; (rcases bool_or ZkXa with ⟨R8, R7⟩ | ⟨R8, R7⟩) <;> subst R7))
  k_with "call builtin:list.append" => ((k_here; (with_reducible show wpAny _ _ (call (Value.builtin _) [Value.ref _, _]) _ _ _); k_dflt (refine' append_K ?QlXa ?QlXb ?QlXc ?_ ?QlXd; (case QlXa => k_asm); (case QlXb => k_asm); (case QlXc => k_upd); (case QlXd => exact size_ok (k := 100000) (by omega) (by decide)); k_whole); intro ZlXc ZlXa ZlXb; (try k_sweep)))
  k_with "m_k_room" => (ktr_room)
  k_with "m_k_units" => (ktr_units)
  k_with "S_enterM" => ((refine' code_defG ?QoXa ?QoXb ?QoXc ?QoXd ?QoXe ?QoXf ?QoXg ?QoXh ?QoXi ?QoXj ?QoXk ?QoXl ?QoXm ?_ ?QoXn ?QoXo ?QoXp ?QoXq; (case QoXf => exact rfl); (case QoXg => exact rfl); (case QoXh => assumption); (case QoXa => k_asm); (case QoXb => k_asm); (case QoXc => k_asm); (case QoXd => k_asm); (case QoXe => k_asm); (case QoXi => k_is); (case QoXj => k_is); (case QoXk => ktr_room); (case QoXl => exact BindsTo.of_eq rfl); (case QoXq => decide); (case QoXm => exact locs rfl); (case QoXn => exact rfl); (case QoXo => exact rfl); (case QoXp => exact rfl); k_whole; intro ZoXh ZoXd ZoXi ZoXc ZoXb ZoXe ZoXa ZoXg ZoXf ZoXj; (try dsimp only [List.map_nil, List.map_cons] at ZoXj); (try dsimp only); (try k_lift ZoXa); (try k_fold)))
  k_with "callWith" => (((with_reducible show wpAny _ _ (callWith _ (Prod.fst _) (Prod.snd _) _ _) _ _ _); dsimp only))
  k_with "S_int" => (first | omega | decide | ((simp only [List.length_cons, List.length_nil, decide_eq_true_eq, decide_eq_false_iff_not, beq_iff_eq, beq_eq_false_iff_ne, ne_eq, Int.not_lt, Int.not_le] at *); omega))
  k_with "binaryOp FloorDiv int int" => (((with_reducible show wpAny _ _ (binaryOp _ (Value.int _ _) (Value.int _ _)) _ _ _); k_dflt (refine r_fdiv (by walk_at "S_int") (by walk_at "S_int") ?_); intro _ _))
  k_with "binaryOp Mod int int" => (((with_reducible show wpAny _ _ (binaryOp _ (Value.int _ _) (Value.int _ _)) _ _ _); k_dflt (refine r_fmod (by walk_at "S_int") ?_); intro _ _))
  k_with "S_item" => (((with_reducible show wpAny _ _ (subscriptTail _ _ (Value.str (S _) _) (Value.int _ _)) _ _ _); k_dflt (refine r_item (by walk_at "S_int") (by walk_at "S_int") (by walk_at "S_fit") ?_); intro _ _))
  k_with "subscriptTail Name BinOp str int" => (walk_at "S_item")
  k_with "subscriptTail Name Constant str int" => (walk_at "S_item")
  k_with "subscriptTail Name Name str int" => (walk_at "S_item")
  k_with "S_lit" => (first | (with_reducible exact lit_dots) | (with_reducible exact lit_empty) | (with_reducible exact lit34) | (with_reducible exact lit9234) | (with_reducible exact lit92) | (with_reducible exact lit10) | (with_reducible exact lit38) | (with_reducible exact lit59) | (with_reducible rfl))
  k_with "call builtin:str.replace" => (((with_reducible show wpAny _ _ (call (Value.builtin _) [Value.str (S _) _, Value.str _ _, Value.str _ _]) _ _ _); k_dflt (refine r_replace (by walk_at "S_lit") (by walk_at "S_lit") (by decide) (Nat.succ_ne_zero _) (Nat.succ_ne_zero _) (Nat.ne_of_lt (Nat.lt_succ_self _)) (by decide) (by walk_at "S_nn") ?_); intro _ _))
  k_with "call builtin:str.join" => ((k_here; (with_reducible show wpAny _ _ (call (Value.builtin _) [Value.str _ _, Value.ref _]) _ _ _); k_dflt (refine r_join (by walk_at "S_lit") (by walk_at "S_isl") (by walk_at "S_strs") (by walk_at "S_sum") ?_); intro _ _))
  k_with "S_isl" => (first | assumption | exact ⟨LCg.lst _, News.get (by k_asm) (by k_mem), rfl, _, rfl⟩ | is_list)
  k_with "S_strs" => (first | exact StrsAre.nil | assumption | (exact CharsAre.strs (by assumption)))
  k_with "binaryOp Mult str int" => (((with_reducible show wpAny _ _ (binaryOp _ (Value.str (S _) _) (Value.int _ _)) _ _ _); k_dflt (refine r_mul (by walk_at "S_int") (by walk_at "S_int") (by walk_at "S_nn") ?_); intro _ _))
  k_with "S_enterC" => ((refine' code_defCG ?Q13Xa ?Q13Xb ?Q13Xc ?Q13Xd ?Q13Xe ?Q13Xf ?Q13Xg ?Q13Xh ?Q13Xi ?Q13Xj ?Q13Xk ?Q13Xl ?Q13Xm ?Q13Xn ?_ ?Q13Xo ?Q13Xp ?Q13Xq; (case Q13Xf => exact rfl); (case Q13Xg => exact rfl); (case Q13Xh => assumption); (case Q13Xa => k_asm); (case Q13Xb => k_asm); (case Q13Xc => k_asm); (case Q13Xd => k_asm); (case Q13Xe => k_asm); (case Q13Xi => k_is); (case Q13Xj => k_is); (case Q13Xk => ktr_room); (case Q13Xl => exact BindsTo.of_eq rfl); (case Q13Xm => rfl); (case Q13Xn => decide); (case Q13Xo => exact rfl); (case Q13Xp => exact rfl); (case Q13Xq => exact rfl); k_whole; intro Z13Xj Z13Xd Z13Xk Z13Xo Z13Xi Z13Xc Z13Xb Z13Xe Z13Xh Z13Xa Z13Xg Z13Xf Z13Xm Z13Xl Z13Xn; (try dsimp only [List.map_nil, List.map_cons] at Z13Xl); (try k_lt Z13Xm); k_cells Z13Xh; (try simp only [List.cons_append, List.nil_append] at Z13Xe); (try dsimp only); (try k_lift Z13Xa); (try k_fold)))
  k_with "S_lcs" => ((k_here; k_dflt (refine ListComp_S (_F₀ := by k_asm) (by rfl) (by decide) (by rfl) (by decide) (by rfl) ?_)))
  k_with "S_lit" => (first | (with_reducible exact lit_dots) | (with_reducible exact lit_empty) | (with_reducible exact lit34) | (with_reducible exact lit9234) | (with_reducible exact lit92) | (with_reducible exact lit10) | (with_reducible exact lit38) | (with_reducible exact lit59) | (with_reducible exact lit60) | (with_reducible exact lit62) | (with_reducible exact lit13) | (with_reducible exact lit9) | (with_reducible exact litamp) | (with_reducible exact litlt) | (with_reducible exact litgt) | (with_reducible exact litquot) | (with_reducible rfl))
  k_with "S_sum" => (assumption)
  k_with "eval ListComp" => ((k_here; (with_reducible show wpAny _ _ (eval (PySem.Expr.ListComp _ [⟨PySem.Expr.Tuple _ _ _, _, [], 0⟩] _ _) _) _ _ _); k_dflt (refine ListComp_E (_F₀ := by k_asm) (by rfl) (by decide) (by rfl) (by decide) (by rfl) (by rfl) (by decide) ?_)))
  k_with "eval ListComp" => ((k_here; (with_reducible show wpAny _ _ (eval (PySem.Expr.ListComp _ [⟨PySem.Expr.Name _ _, _, [], 0⟩] _ _) _) _ _ _); k_dflt (refine LCg.ListComp_U (F₀ := by k_asm) (by rfl) (by decide) (by rfl) (by decide) (by rfl) ?_)))
  k_with "call type:enumerate" => (refine stop9 ?_)
  k_with "exec Assign cons ListComp" => ((k_here; k_dflt (refine wpAny_Assign_Name ?_ (by rfl))))
  k_with "CompSrc" => (refine stop9 ?_)
  k_with "CompEnd" => (refine stop9 ?_)
  k_with "FinE" => (((unfold LCg.FinE); intro Z1dXa Z1dXd Z1dXf Z1dXb Z1dXc Z1dXe; (try simp only [List.nil_append, List.cons_append] at Z1dXc); (try dsimp only)))
  k_with "FinA" => (((unfold LCg.FinA); intro Z1eXa Z1eXd Z1eXf Z1eXb Z1eXc Z1eXe; (try simp only [List.nil_append, List.cons_append] at Z1eXc); (try dsimp only)))
  k_with "m_k_ne" => (first | (refine neN ?_; (try dsimp only); omega) | exact off1_ne (by assumption) (by k_mem) | exact Ne.symm (off1_ne (by assumption) (by k_mem)))
  k_with "eval ListComp" => ((k_here; (with_reducible show wpAny _ _ (eval (PySem.Expr.ListComp _ [⟨PySem.Expr.Name _ _, _, [_], 0⟩] _ _) _) _ _ _); k_dflt (refine LCt.ListComp_T (F₀ := by k_asm) (by rfl) (by decide) (by rfl) (by decide) (by rfl) ?_)))
  k_with "CompSrcT" => (refine stop9 ?_)
  k_with "S_laps" => ((intro Z1iXf; obtain ⟨Z1iXa, Z1iXj, Z1iXi, Z1iXh, Z1iXc, Z1iXd, Z1iXe⟩ := Z1iXf; subst Z1iXh; (obtain ⟨Z1iXb, Z1iXg⟩ := news_add (by k_asm) (by k_asm) (by k_asm) Z1iXc Z1iXd)))
  k_with "S_il" => (((rename News _ _ _ _ => Z1jXa); exact ⟨_, News.get Z1jXa (by k_mem), rfl, _, rfl⟩))
  trivial
theorem wr_keep {P : Params} {fw : Nat} {wr : List Nat → List Nat} {mk f0 f1 f2 : List Nat} (h : (fw, wr, mk, f0, f1, f2) ∈ wrT) : keepIn (hd.heap_1 P) (.ref fw) = true := by
  simp only [wrT, List.mem_cons, List.not_mem_nil, or_false, Prod.mk.injEq] at h
  rcases h with ⟨rfl, _⟩ | ⟨rfl, _⟩ | ⟨rfl, _⟩ | ⟨rfl, _⟩ | ⟨rfl, _⟩ <;> rfl
theorem wr_con {w : World} {p loose mean mg mb} {fw : Nat} {wr : List Nat → List Nat} {mk f0 f1 f2 : List Nat} (h : (fw, wr, mk, f0, f1, f2) ∈ wrT) (x : List Nat) (tw : Tok) (hx : x.length ≤ 9) :
    PCon 2 Challenge.pw_sc0056_01 w (hd.heap_1 w.params) p loose mean mg mb fw [.str (S x) tw] (fun _ _ v => ∃ t, v = .str (S (wr x)) t) := by
  simp only [wrT, List.mem_cons, List.not_mem_nil, or_false, Prod.mk.injEq] at h
  rcases h with ⟨rfl, rfl, _⟩ | ⟨rfl, rfl, _⟩ | ⟨rfl, rfl, _⟩ | ⟨rfl, rfl, _⟩ | ⟨rfl, rfl, _⟩
  · exact con_wr0 x tw hx
  · exact con_wr1 x tw hx
  · exact con_wr2 x tw hx
  · exact con_wr3 x tw hx
  · exact con_wr4 x tw hx
theorem wr_mk {fw : Nat} {wr : List Nat → List Nat} {mk f0 f1 f2 : List Nat} (h : (fw, wr, mk, f0, f1, f2) ∈ wrT) : f0.length ≤ 5 ∧ f1.length ≤ 5 ∧ f2.length ≤ 5 ∧ ∀ c ∈ mk, c = 38 ∨ c = 60 ∨ c = 62 ∨ c = 34 ∨ c = 13 ∨ c = 10 ∨ c = 9 := by
  simp only [wrT, List.mem_cons, List.not_mem_nil, or_false, Prod.mk.injEq] at h
  rcases h with ⟨_, _, rfl, rfl, rfl, rfl⟩ | ⟨_, _, rfl, rfl, rfl, rfl⟩ | ⟨_, _, rfl, rfl, rfl, rfl⟩ | ⟨_, _, rfl, rfl, rfl, rfl⟩ | ⟨_, _, rfl, rfl, rfl, rfl⟩ <;> decide
end
section
local macro_rules | `(tactic| walk_at "zz0") => `(tactic| fail)
local macro_rules | `(tactic| walk_at "zz1") => `(tactic| fail)
local macro_rules | `(tactic| walk_at "zz2") => `(tactic| fail)
noncomputable def twoSt : Stmt := (Challenge.pw_sc0056_01.main.body.dropLast.getLast?).getD (.Pass default)
noncomputable def twoBody : List Stmt := match twoSt with | .FunctionDef _ _ b .. => b | _ => []
noncomputable def twoScope : Scope := match twoSt with | .FunctionDef _ _ _ _ _ _ sc .. => sc | _ => default
noncomputable abbrev twoN : PySem.Str := PySem.Str.ofString "_law_two"
noncomputable abbrev twoCl (L : Addr) : List (PySem.Str × Addr) := cellsFrom (L + 1) twoScope.names []
noncomputable abbrev twoEnv (L fa : Addr) (ccd : Value) : Env := envX twoN twoScope L fa ccd (twoCl L)
noncomputable abbrev twoA (dp un : Nat) (gd : Option (List Code)) (L fa : Addr) (ccd : Value) (outer : List Env) : Around := ktrTop dp un gd twoN twoScope L fa ccd (twoCl L) outer
/-- the chain's values and the tuples behind it -/
inductive ChainAre : List Value → List (Addr × Obj) → List (Nat × Nat) → Prop
  | nil : ChainAre [] [] []
  | snoc {vs : List Value} {tl : List (Addr × Obj)} {ch : List (Nat × Nat)} (T : Addr) (n p : Nat) (t u : Tok) : ChainAre vs tl ch → ChainAre (vs ++ [.ref T]) ((T, tupObj [.int (n : Int) t, .int (p : Int) u]) :: tl) (ch ++ [(n, p)])
/-- the chain from behind: at each place a tuple of the ledger's tail -/
theorem ChainAre.back {vs : List Value} {tl : List (Addr × Obj)} {ch : List (Nat × Nat)} (h : ChainAre vs tl ch) : vs.length = ch.length ∧ ∀ i, i < vs.length → ∃ (T : Addr) (n p : Nat) (t u : Tok), vs.reverse[i]? = some (Value.ref T) ∧ ch.reverse[i]? = some (n, p) ∧ (T, tupObj [.int (n : Int) t, .int (p : Int) u]) ∈ tl := by
  induction h with
  | nil => exact ⟨rfl, fun i hi => absurd hi (Nat.not_lt_zero _)⟩
  | snoc T n p t u _ ih =>
    refine ⟨by simp [ih.1], fun i hi => ?_⟩
    rw [List.reverse_append, List.reverse_append]
    cases i with
    | zero => exact ⟨T, n, p, t, u, rfl, rfl, .head _⟩
    | succ i =>
      obtain ⟨T', n', p', t', u', e1, e2, e3⟩ := ih.2 i (by simpa using hi)
      exact ⟨T', n', p', t', u', by simpa using e1, by simpa using e2, .tail _ e3⟩
theorem fold_take {α β : Type} (f : β → α → β) (z : β) {l : List α} {i : Nat} {x : α} (h : l[i]? = some x) : (l.take (i + 1)).foldl f z = f ((l.take i).foldl f z) x := by
  rw [List.take_add_one, h, List.foldl_append]; rfl
end
section
example : True := by
  k_with "execs cons" => (((have _sf : StopH := by assumption); clear _sf; refine stop9 ?_))
  trivial
theorem main2 {w : World} {p loose mean mg mb} {dp un : Nat} {gd : Option (List Code)} {L fa : Addr} {ccd : Value} {outer : List Env} {A₀ : Around} {base g : Heap} {m : PySem.Str → Option Value} {s : Shared} {Q : Flow → Shared → Prop} {E : Value → Shared → Prop}
    (o1 o2 o3 o4 o5 o6 o7 : Obj) (Dh : Addr) (a0 a1 a2 : Int) (t0 t1 t2 : Tok) (q0 : 0 ≤ a0) (q1 : 0 ≤ a1) (q2 : 0 ≤ a2) (d2 : o2.data = .cell (some (.ref Dh))) (d3 : o3.data = .cell none) (d4 : o4.data = .cell none) (lh : @LT.lt Nat _ (L + 1 + 1 + 1 + 1 + 1 + 1 + 1) Dh) (x y z : Nat) (ts : Tok) (hsg : m (PySem.Str.ofString "signs") = some (.str (S [x, y, z]) ts))
    (hB : Below A₀ base outer g) (hF : Fr g L s.heap m) (hX : (hd.heap_1 w.params).In g) (hT : Top p loose mean mg mb g) (hr : dp + 30 < recursionLimit) (hu : un + 16 * 30 < cLine) (hC : CodeHd base 111 107) (h7 : @LT.lt Nat _ 107 L) (hN : News g L s.heap [(Dh, listOf [.int a0 t0, .int a1 t1, .int a2 t2].toArray 3), (L + 1 + 1 + 1 + 1 + 1 + 1 + 1, o7), (L + 1 + 1 + 1 + 1 + 1 + 1, o6), (L + 1 + 1 + 1 + 1 + 1, o5), (L + 1 + 1 + 1 + 1, o4), (L + 1 + 1 + 1, o3), (L + 1 + 1, o2), (L + 1, o1), (107, tabObj #[])])
    (next : ∀ (h' : Heap) (tk' : Nat) (m' : PySem.Str → Option Value) (o3' o4' : Obj) (G : Addr) (fw : Nat) (wr : List Nat → List Nat) (mk f0 f1 f2 : List Nat) (tm u0 u1 u2 : Tok), (fw, wr, mk, f0, f1, f2) ∈ wrT → o3'.data = .cell (some (.str (S mk) tm)) → o4'.data = .cell (some (.ref G)) → @LT.lt Nat _ Dh G →
      m' (PySem.Str.ofString "signs") = some (.str (S [x, y, z]) ts) → m' (PySem.Str.ofString "writer") = some (.ref fw) → Fr g L h' m' → News g L h' [(G, tupObj [.str (S f0) u0, .str (S f1) u1, .str (S f2) u2]), (Dh, listOf [.int a0 t0, .int a1 t1, .int a2 t2].toArray 3), (L + 1 + 1 + 1 + 1 + 1 + 1 + 1, o7), (L + 1 + 1 + 1 + 1 + 1 + 1, o6), (L + 1 + 1 + 1 + 1 + 1, o5), (L + 1 + 1 + 1 + 1, o4'), (L + 1 + 1 + 1, o3'), (L + 1 + 1, o2), (L + 1, o1), (107, tabObj #[])] →
      wpAny (model Challenge.pw_sc0056_01 w) (lawA dp un gd L fa ccd outer) (execs (lawBody.drop 3) (lawEnv L fa ccd)) Q E { s with heap := h', toks := tk' }) :
    wpAny (model Challenge.pw_sc0056_01 w) (lawA dp un gd L fa ccd outer) (execs (lawBody.drop 2) (lawEnv L fa ccd)) Q E s := by
  obtain ⟨hp, gns, dr, tk, os⟩ := s
  conv in (List.drop _ lawBody) => whnf
  (try clear sfl)
  walk1
  ((try clear sfl); have sfl : StopH := trivial)
  k_steps
  · refine Stop9.go ?_
    rename Fr _ _ _ _ => F6
    rename News _ _ _ _ => N6
    refine next _ _ _ _ _ _ 77 wr0 [38, 60, 62] [] [] [] _ ?ua0 ?ub0 ?uc0 (by simp [wrT]) (by assumption) (by assumption) ?lt0 (by exact hsg) (by rfl) F6 (news_sub N6 ?sub0)
    case sub0 => lcg_sub
    case lt0 => omega
  · refine Stop9.go ?_
    rename Fr _ _ _ _ => F6
    rename News _ _ _ _ => N6
    refine next _ _ _ _ _ _ 84 wr1 [38, 60, 62, 34, 13, 10, 9] [35, 49, 51] [35, 49, 48] [35, 48, 57] _ ?ua1 ?ub1 ?uc1 (by simp [wrT]) (by assumption) (by assumption) ?lt1 (by exact hsg) (by rfl) F6 (news_sub N6 ?sub1)
    case sub1 => lcg_sub
    case lt1 => omega
  · refine Stop9.go ?_
    rename Fr _ _ _ _ => F6
    rename News _ _ _ _ => N6
    refine next _ _ _ _ _ _ 91 wr2 [38, 62, 34] [] [] [] _ ?ua2 ?ub2 ?uc2 (by simp [wrT]) (by assumption) (by assumption) ?lt2 (by exact hsg) (by rfl) F6 (news_sub N6 ?sub2)
    case sub2 => lcg_sub
    case lt2 => omega
  · refine Stop9.go ?_
    rename Fr _ _ _ _ => F6
    rename News _ _ _ _ => N6
    refine next _ _ _ _ _ _ 98 wr3 [38, 60, 62, 13] [35, 120, 68] [] [] _ ?ua3 ?ub3 ?uc3 (by simp [wrT]) (by assumption) (by assumption) ?lt3 (by exact hsg) (by rfl) F6 (news_sub N6 ?sub3)
    case sub3 => lcg_sub
    case lt3 => omega
  · refine Stop9.go ?_
    rename Fr _ _ _ _ => F6
    rename News _ _ _ _ => N6
    refine next _ _ _ _ _ _ 105 wr4 [38, 60, 34, 13, 10, 9] [35, 120, 68] [35, 120, 65] [35, 120, 57] _ ?ua4 ?ub4 ?uc4 (by simp [wrT]) (by assumption) (by assumption) ?lt4 (by exact hsg) (by rfl) F6 (news_sub N6 ?sub4)
    case sub4 => lcg_sub
    case lt4 => omega
end
section
local macro_rules | `(tactic| walk_at "zz0") => `(tactic| fail)
local macro_rules | `(tactic| walk_at "zz1") => `(tactic| fail)
local macro_rules | `(tactic| walk_at "zz2") => `(tactic| fail)
theorem main9 {w : World} {p loose mean mg mb} {dp un : Nat} {gd : Option (List Code)} {L fa : Addr} {ccd : Value} {outer : List Env} {A₀ : Around} {base g : Heap} {m : PySem.Str → Option Value} {s : Shared} {Q : Flow → Shared → Prop} {E : Value → Shared → Prop}
    (o1 o2 o3 o4 o5 o6 o7 : Obj) (Dh G : Addr) (a0 a1 a2 : Int) (t0 t1 t2 : Tok) (q0 : 0 ≤ a0) (q1 : 0 ≤ a1) (q2 : 0 ≤ a2) (fw : Nat) (wr : List Nat → List Nat) (mk f0 f1 f2 : List Nat) (tm u0 u1 u2 : Tok) (hwr : (fw, wr, mk, f0, f1, f2) ∈ wrT) (d2 : o2.data = .cell (some (.ref Dh))) (d3 : o3.data = .cell (some (.str (S mk) tm))) (d4 : o4.data = .cell (some (.ref G))) (txt : List Nat) (hx9 : txt.length ≤ 9) (hx1 : txt ≠ []) (tt : Tok) (d7 : o7.data = .cell none) (d6 : o6.data = .cell (some (.str (S txt) tt))) (lh : @LT.lt Nat _ (L + 1 + 1 + 1 + 1 + 1 + 1 + 1) Dh) (lg : @LT.lt Nat _ Dh G) (x y z : Nat) (ts : Tok) (rx : R8 x) (ry : R8 y) (rz : R8 z) (hxy : x ≠ y) (hsg : m (PySem.Str.ofString "signs") = some (.str (S [x, y, z]) ts)) (hwn : m (PySem.Str.ofString "writer") = some (.ref fw)) (Dp : Addr) (p0 p1 p2 : List Nat) (v0 v1 v2 : Tok) (pc0 : Pc x y z p0) (pc1 : Pc x y z p1) (pc2 : Pc x y z p2) (pn0 : p0 ≠ []) (lp : @LT.lt Nat _ G Dp) (hpn : m (PySem.Str.ofString "pieces") = some (.ref Dp)) (w0 w1 w2 : Int) (tp : Tok) (hpg : m (PySem.Str.ofString "page") = some (.str (S (pageL p0 p1 p2 w0 w1 w2)) tp)) (r : RP) (ok : r.Ok) (kp : Nat) (ps : Array Value) (lr : @LT.lt Nat _ Dp r.aC) (d5 : o5.data = .cell (some (.ref r.aR))) (tl : Tok) (lf : List Value) (kl : Nat) (Hd : Addr) (b0 b1 b2 : Tok) (hhd : m (PySem.Str.ofString "heard") = some (.ref Hd)) (tr : Tok) (hrs : m (PySem.Str.ofString "rest") = some (.str (S []) tr)) (hof : Off1 Hd [(Dp, listOf [.str (S p0) v0, .str (S p1) v1, .str (S p2) v2].toArray 0), (G, tupObj [.str (S f0) u0, .str (S f1) u1, .str (S f2) u2]), (Dh, listOf [.int a0 t0, .int a1 t1, .int a2 t2].toArray 3), (L + 1 + 1 + 1 + 1 + 1 + 1 + 1, o7), (L + 1 + 1 + 1 + 1 + 1 + 1, o6), (L + 1 + 1 + 1 + 1 + 1, o5), (L + 1 + 1 + 1 + 1, o4), (L + 1 + 1 + 1, o3), (L + 1 + 1, o2), (L + 1, o1), (r.aP, listOf (([] : List Value)).toArray kp), (r.aR, instObj 59 r.dR), (r.dR, dictOf [ent w.params "lineno" r.t1 (.int ((1 + ((pageL p0 p1 p2 w0 w1 w2).count 10 : Nat) : Int)) tl), ent w.params "instream" r.t2 (.ref r.aS), ent w.params "whitespace" r.t3 (.str wsT r.t4), ent w.params "pushback" r.t5 (.ref r.aP)] 4), (r.aF, kla_obj (PySem.Str.ofString "<lambda>") r.q (lamArgs 154) (lamBody 154) lamScope [(PySem.Str.ofString "left", r.aC)] r.pm r.cF r.ctv), (r.cF, r.oc), (r.aP2, listOf #[] 0), (r.aS, instObj 59 r.dS), (r.dS, dictOf [ent w.params "lineno" r.s1 (.int 1 r.s0), ent w.params "instream" r.s2 .none, ent w.params "whitespace" r.s3 (.str wsT r.s4), ent w.params "pushback" r.s5 (.ref r.aP2), ent w.params "read" r.s6 (.ref r.aF)] 5), (r.aL, listOf (lf).toArray kl), (r.aC, r.oC), (107, tabObj ps)])
    (hB : Below A₀ base outer g) (hF : Fr g L s.heap m) (hX : (hd.heap_1 w.params).In g) (hT : Top p loose mean mg mb g) (hr : dp + 30 < recursionLimit) (hu : un + 16 * 30 < cLine) (hC : CodeHd base 111 107) (h7 : @LT.lt Nat _ 107 L) (hN : News g L s.heap ((Hd, listOf [.str (S p0) b0, .str (S p1) b1, .str (S p2) b2].toArray 3) :: [(Dp, listOf [.str (S p0) v0, .str (S p1) v1, .str (S p2) v2].toArray 0), (G, tupObj [.str (S f0) u0, .str (S f1) u1, .str (S f2) u2]), (Dh, listOf [.int a0 t0, .int a1 t1, .int a2 t2].toArray 3), (L + 1 + 1 + 1 + 1 + 1 + 1 + 1, o7), (L + 1 + 1 + 1 + 1 + 1 + 1, o6), (L + 1 + 1 + 1 + 1 + 1, o5), (L + 1 + 1 + 1 + 1, o4), (L + 1 + 1 + 1, o3), (L + 1 + 1, o2), (L + 1, o1), (r.aP, listOf (([] : List Value)).toArray kp), (r.aR, instObj 59 r.dR), (r.dR, dictOf [ent w.params "lineno" r.t1 (.int ((1 + ((pageL p0 p1 p2 w0 w1 w2).count 10 : Nat) : Int)) tl), ent w.params "instream" r.t2 (.ref r.aS), ent w.params "whitespace" r.t3 (.str wsT r.t4), ent w.params "pushback" r.t5 (.ref r.aP)] 4), (r.aF, kla_obj (PySem.Str.ofString "<lambda>") r.q (lamArgs 154) (lamBody 154) lamScope [(PySem.Str.ofString "left", r.aC)] r.pm r.cF r.ctv), (r.cF, r.oc), (r.aP2, listOf #[] 0), (r.aS, instObj 59 r.dS), (r.dS, dictOf [ent w.params "lineno" r.s1 (.int 1 r.s0), ent w.params "instream" r.s2 .none, ent w.params "whitespace" r.s3 (.str wsT r.s4), ent w.params "pushback" r.s5 (.ref r.aP2), ent w.params "read" r.s6 (.ref r.aF)] 5), (r.aL, listOf (lf).toArray kl), (r.aC, r.oC), (107, tabObj ps)]))
    (next : ∀ (h' : Heap) (tk' : Nat) (Dl : Addr) (pl : List Value) (o7' : Obj), IntsAre pl (nI (lapsL txt)) → o7'.data = .cell (some (.ref Dl)) → Off1 Dl ((Hd, listOf [.str (S p0) b0, .str (S p1) b1, .str (S p2) b2].toArray 3) :: [(Dp, listOf [.str (S p0) v0, .str (S p1) v1, .str (S p2) v2].toArray 0), (G, tupObj [.str (S f0) u0, .str (S f1) u1, .str (S f2) u2]), (Dh, listOf [.int a0 t0, .int a1 t1, .int a2 t2].toArray 3), (L + 1 + 1 + 1 + 1 + 1 + 1 + 1, o7'), (L + 1 + 1 + 1 + 1 + 1 + 1, o6), (L + 1 + 1 + 1 + 1 + 1, o5), (L + 1 + 1 + 1 + 1, o4), (L + 1 + 1 + 1, o3), (L + 1 + 1, o2), (L + 1, o1), (r.aP, listOf (([] : List Value)).toArray kp), (r.aR, instObj 59 r.dR), (r.dR, dictOf [ent w.params "lineno" r.t1 (.int ((1 + ((pageL p0 p1 p2 w0 w1 w2).count 10 : Nat) : Int)) tl), ent w.params "instream" r.t2 (.ref r.aS), ent w.params "whitespace" r.t3 (.str wsT r.t4), ent w.params "pushback" r.t5 (.ref r.aP)] 4), (r.aF, kla_obj (PySem.Str.ofString "<lambda>") r.q (lamArgs 154) (lamBody 154) lamScope [(PySem.Str.ofString "left", r.aC)] r.pm r.cF r.ctv), (r.cF, r.oc), (r.aP2, listOf #[] 0), (r.aS, instObj 59 r.dS), (r.dS, dictOf [ent w.params "lineno" r.s1 (.int 1 r.s0), ent w.params "instream" r.s2 .none, ent w.params "whitespace" r.s3 (.str wsT r.s4), ent w.params "pushback" r.s5 (.ref r.aP2), ent w.params "read" r.s6 (.ref r.aF)] 5), (r.aL, listOf (lf).toArray kl), (r.aC, r.oC), (107, tabObj ps)]) → Off1 Hd [(Dp, listOf [.str (S p0) v0, .str (S p1) v1, .str (S p2) v2].toArray 0), (G, tupObj [.str (S f0) u0, .str (S f1) u1, .str (S f2) u2]), (Dh, listOf [.int a0 t0, .int a1 t1, .int a2 t2].toArray 3), (L + 1 + 1 + 1 + 1 + 1 + 1 + 1, o7'), (L + 1 + 1 + 1 + 1 + 1 + 1, o6), (L + 1 + 1 + 1 + 1 + 1, o5), (L + 1 + 1 + 1 + 1, o4), (L + 1 + 1 + 1, o3), (L + 1 + 1, o2), (L + 1, o1), (r.aP, listOf (([] : List Value)).toArray kp), (r.aR, instObj 59 r.dR), (r.dR, dictOf [ent w.params "lineno" r.t1 (.int ((1 + ((pageL p0 p1 p2 w0 w1 w2).count 10 : Nat) : Int)) tl), ent w.params "instream" r.t2 (.ref r.aS), ent w.params "whitespace" r.t3 (.str wsT r.t4), ent w.params "pushback" r.t5 (.ref r.aP)] 4), (r.aF, kla_obj (PySem.Str.ofString "<lambda>") r.q (lamArgs 154) (lamBody 154) lamScope [(PySem.Str.ofString "left", r.aC)] r.pm r.cF r.ctv), (r.cF, r.oc), (r.aP2, listOf #[] 0), (r.aS, instObj 59 r.dS), (r.dS, dictOf [ent w.params "lineno" r.s1 (.int 1 r.s0), ent w.params "instream" r.s2 .none, ent w.params "whitespace" r.s3 (.str wsT r.s4), ent w.params "pushback" r.s5 (.ref r.aP2), ent w.params "read" r.s6 (.ref r.aF)] 5), (r.aL, listOf (lf).toArray kl), (r.aC, r.oC), (107, tabObj ps)] →
      Fr g L h' m → News g L h' ((Dl, lst pl) :: ((Hd, listOf [.str (S p0) b0, .str (S p1) b1, .str (S p2) b2].toArray 3) :: [(Dp, listOf [.str (S p0) v0, .str (S p1) v1, .str (S p2) v2].toArray 0), (G, tupObj [.str (S f0) u0, .str (S f1) u1, .str (S f2) u2]), (Dh, listOf [.int a0 t0, .int a1 t1, .int a2 t2].toArray 3), (L + 1 + 1 + 1 + 1 + 1 + 1 + 1, o7'), (L + 1 + 1 + 1 + 1 + 1 + 1, o6), (L + 1 + 1 + 1 + 1 + 1, o5), (L + 1 + 1 + 1 + 1, o4), (L + 1 + 1 + 1, o3), (L + 1 + 1, o2), (L + 1, o1), (r.aP, listOf (([] : List Value)).toArray kp), (r.aR, instObj 59 r.dR), (r.dR, dictOf [ent w.params "lineno" r.t1 (.int ((1 + ((pageL p0 p1 p2 w0 w1 w2).count 10 : Nat) : Int)) tl), ent w.params "instream" r.t2 (.ref r.aS), ent w.params "whitespace" r.t3 (.str wsT r.t4), ent w.params "pushback" r.t5 (.ref r.aP)] 4), (r.aF, kla_obj (PySem.Str.ofString "<lambda>") r.q (lamArgs 154) (lamBody 154) lamScope [(PySem.Str.ofString "left", r.aC)] r.pm r.cF r.ctv), (r.cF, r.oc), (r.aP2, listOf #[] 0), (r.aS, instObj 59 r.dS), (r.dS, dictOf [ent w.params "lineno" r.s1 (.int 1 r.s0), ent w.params "instream" r.s2 .none, ent w.params "whitespace" r.s3 (.str wsT r.s4), ent w.params "pushback" r.s5 (.ref r.aP2), ent w.params "read" r.s6 (.ref r.aF)] 5), (r.aL, listOf (lf).toArray kl), (r.aC, r.oC), (107, tabObj ps)])) →
      wpAny (model Challenge.pw_sc0056_01 w) (lawA dp un gd L fa ccd outer) (execs (lawBody.drop 10) (lawEnv L fa ccd)) Q E { s with heap := h', toks := tk' }) :
    wpAny (model Challenge.pw_sc0056_01 w) (lawA dp un gd L fa ccd outer) (execs (lawBody.drop 9) (lawEnv L fa ccd)) Q E s := by
  obtain ⟨hp, gns, dr, tk, os⟩ := s
  conv in (List.drop _ lawBody) => whnf
  (try clear sfl)
  walk1
  ((try clear sfl); have sfl : StopH := trivial)
  k_steps
  refine Stop9.go ?_
  rename Fr _ _ _ _ => F1
  rename News _ _ _ _ => N1
  rename IsRange _ _ _ _ _ _ _ _ => hR9
  k_dflt (refine LCt.CompSrcT.range (n := txt.length) rfl F1 N1 hR9 (small_le (by omega) (by omega) (by omega) (by omega)) (by rw [rangeSize_nat]; omega) (by rw [PySem.sizeLine_eq]; omega) fun g' => ?_)
  refine rest_indT (J := fun i ys news => IntsAre ys (nI (lapsTo txt i)) ∧ news = _) ?step ?fin _ 0 _ _ (Nat.zero_add _) ⟨.nil, rfl⟩
  case step =>
    clear N1 F1 hR9
    rintro i v ys news I oI C oC D m2 h2 tk2 E9 hi ⟨tv, rfl⟩ ⟨hJ, rfl⟩ hC2 hx F2 N2 off ne
    dsimp only
    k_steps
    · rename (S _ == S _) = true => hb
      rename Fr _ _ _ _ => F5
      rename News _ _ _ _ => N5
      refine Stop9.go (CompEnd.intro F5 N5 _ ?s1 off trivial ⟨lap_yes hJ (lap_test hi hb), rfl⟩)
      case s1 => lcg_sub
    · rename (S _ == S _) = false => hb
      rename Fr _ _ _ _ => F5
      rename News _ _ _ _ => N5
      refine Stop9.go (CompEnd.intro F5 N5 _ ?s2 off trivial ⟨lap_no hJ (lap_test hi hb), rfl⟩)
      case s2 => lcg_sub
  case fin =>
    rintro ys news ⟨hJ, rfl⟩
    clear N1 F1
    intro Dl h5 tk5 F5 N5 o5'
    have ok' := ok
    obtain ⟨k1, k2, k3, k4, k5, k6, k7, k8, k9, k10, k11, k12⟩ := ok'
    dsimp only
    k_steps
    refine Stop9.go ?_
    rename Fr _ _ _ _ => F6
    rename News _ _ _ _ => N6
    rename _ = Data.cell (some (Value.ref Dl)) => d7'
    exact next _ _ Dl ys _ hJ d7' o5' hof F6 N6
end
section
theorem two2 {w : World} {p loose mean mg mb} {dp un : Nat} {gd : Option (List Code)} {L fa : Addr} {ccd : Value} {outer : List Env} {A₀ : Around} {base g : Heap} {m : PySem.Str → Option Value} {s : Shared} {Q : Flow → Shared → Prop} {E : Value → Shared → Prop}
    (o1 o2 o3 o4 : Obj) (r : RP) (ok : r.Ok) (ln : Int) (tl : Tok) (lf : List Value) (kl : Nat) (kp : Nat) (a b : Nat) (ta tb : Tok) (Dc D9 : Addr) (vs9 cvs : List Value) (k9 kc : Nat) (tn : Tok) (d1 : o1.data = .cell (some (.str (S [b]) tb))) (now : List Nat) (hn1 : now ≠ []) (hn9 : now.length ≤ 9) (tlx : List (Addr × Obj))
    (n1 : m (PySem.Str.ofString "reader") = some (.ref r.aR)) (n3 : m (PySem.Str.ofString "one") = some (.str (S [a]) ta)) (n4 : m (PySem.Str.ofString "chain") = some (.ref Dc)) (n5 : m (PySem.Str.ofString "now") = some (.str (S now) tn))
    (hB : Below A₀ base outer g) (hF : Fr g L s.heap m) (hX : (hd.heap_1 w.params).In g) (hT : Top p loose mean mg mb g) (hr : dp + 16 < recursionLimit) (hu : un + 16 * 16 < cLine) (hC : CodeHd base 111 107) (hN : News g L s.heap ((D9, listOf (vs9).toArray k9) :: (Dc, listOf (cvs).toArray kc) :: (L + 1 + 1 + 1 + 1, o4) :: (L + 1 + 1 + 1, o3) :: (L + 1 + 1, o2) :: (L + 1, o1) :: (r.aP, listOf (([] : List Value)).toArray kp) :: (r.aR, instObj 59 r.dR) :: (r.dR, dictOf [ent w.params "lineno" r.t1 (.int (ln) tl), ent w.params "instream" r.t2 (.ref r.aS), ent w.params "whitespace" r.t3 (.str wsT r.t4), ent w.params "pushback" r.t5 (.ref r.aP)] 4) :: (r.aF, kla_obj (PySem.Str.ofString "<lambda>") r.q (lamArgs 154) (lamBody 154) lamScope [(PySem.Str.ofString "left", r.aC)] r.pm r.cF r.ctv) :: (r.cF, r.oc) :: (r.aP2, listOf #[] 0) :: (r.aS, instObj 59 r.dS) :: (r.dS, dictOf [ent w.params "lineno" r.s1 (.int 1 r.s0), ent w.params "instream" r.s2 .none, ent w.params "whitespace" r.s3 (.str wsT r.s4), ent w.params "pushback" r.s5 (.ref r.aP2), ent w.params "read" r.s6 (.ref r.aF)] 5) :: (r.aL, listOf (lf).toArray kl) :: (r.aC, r.oC) :: tlx))
    (next : ∀ (h' : Heap) (tk' : Nat) (m' : PySem.Str → Option Value) (tm : Tok),
      m' (PySem.Str.ofString "reader") = some (.ref r.aR) → m' (PySem.Str.ofString "one") = some (.str (S [a]) ta) → m' (PySem.Str.ofString "chain") = some (.ref Dc) → m' (PySem.Str.ofString "made") = some (.str (S (a :: List.replicate (now.length - 1) b)) tm) →  Fr g L h' m' → News g L h' ((Dc, listOf (cvs).toArray kc) :: (L + 1 + 1 + 1 + 1, o4) :: (L + 1 + 1 + 1, o3) :: (L + 1 + 1, o2) :: (L + 1, o1) :: (r.aP, listOf (([] : List Value)).toArray kp) :: (r.aR, instObj 59 r.dR) :: (r.dR, dictOf [ent w.params "lineno" r.t1 (.int (ln) tl), ent w.params "instream" r.t2 (.ref r.aS), ent w.params "whitespace" r.t3 (.str wsT r.t4), ent w.params "pushback" r.t5 (.ref r.aP)] 4) :: (r.aF, kla_obj (PySem.Str.ofString "<lambda>") r.q (lamArgs 154) (lamBody 154) lamScope [(PySem.Str.ofString "left", r.aC)] r.pm r.cF r.ctv) :: (r.cF, r.oc) :: (r.aP2, listOf #[] 0) :: (r.aS, instObj 59 r.dS) :: (r.dS, dictOf [ent w.params "lineno" r.s1 (.int 1 r.s0), ent w.params "instream" r.s2 .none, ent w.params "whitespace" r.s3 (.str wsT r.s4), ent w.params "pushback" r.s5 (.ref r.aP2), ent w.params "read" r.s6 (.ref r.aF)] 5) :: (r.aL, listOf (lf).toArray kl) :: (r.aC, r.oC) :: tlx) →
      wpAny (model Challenge.pw_sc0056_01 w) (twoA dp un gd L fa ccd outer) (execs (twoBody.drop 6) (twoEnv L fa ccd)) Q E { s with heap := h', toks := tk' }) :
    wpAny (model Challenge.pw_sc0056_01 w) (twoA dp un gd L fa ccd outer) (execs (twoBody.drop 5) (twoEnv L fa ccd)) Q E s := by
  have hp1 : 1 ≤ now.length := List.length_pos_iff.mpr hn1
  have hrl : (rpt [b] (((now.length : Nat) : Int) - 1)).length ≤ 9 := by rw [rpt_len]; simp; omega
  obtain ⟨hp, gns, dr, tk, os⟩ := s
  conv in (List.drop _ twoBody) => whnf
  (try clear sfl)
  walk1
  ((try clear sfl); have sfl : StopH := trivial)
  k_steps
  refine Stop9.go ?_
  rename Fr _ _ _ _ => F6
  rename News _ _ _ _ => N6
  refine' next _ _ _ _ (by exact n1) (by exact n3) (by exact n4) ?md F6 (fun q hq => N6 q (.tail _ hq))
  case md =>
    rw [← made0 a b hn1]
    rfl
end
section
local macro_rules | `(tactic| walk_at "zz0") => `(tactic| fail)
local macro_rules | `(tactic| walk_at "zz1") => `(tactic| fail)
local macro_rules | `(tactic| walk_at "zz2") => `(tactic| fail)
example : True := by
  k_with "call ref" => (refine stop9 ?_)
  trivial
theorem main5 {w : World} {p loose mean mg mb} {dp un : Nat} {gd : Option (List Code)} {L fa : Addr} {ccd : Value} {outer : List Env} {A₀ : Around} {base g : Heap} {m : PySem.Str → Option Value} {s : Shared} {Q : Flow → Shared → Prop} {E : Value → Shared → Prop}
    (o1 o2 o3 o4 o5 o6 o7 : Obj) (Dh G : Addr) (a0 a1 a2 : Int) (t0 t1 t2 : Tok) (q0 : 0 ≤ a0) (q1 : 0 ≤ a1) (q2 : 0 ≤ a2) (fw : Nat) (wr : List Nat → List Nat) (mk f0 f1 f2 : List Nat) (tm u0 u1 u2 : Tok) (hwr : (fw, wr, mk, f0, f1, f2) ∈ wrT) (d2 : o2.data = .cell (some (.ref Dh))) (d3 : o3.data = .cell (some (.str (S mk) tm))) (d4 : o4.data = .cell (some (.ref G))) (d5 : o5.data = .cell none) (lh : @LT.lt Nat _ (L + 1 + 1 + 1 + 1 + 1 + 1 + 1) Dh) (lg : @LT.lt Nat _ Dh G) (x y z : Nat) (ts : Tok) (rx : R8 x) (ry : R8 y) (rz : R8 z) (hxy : x ≠ y) (hsg : m (PySem.Str.ofString "signs") = some (.str (S [x, y, z]) ts)) (hwn : m (PySem.Str.ofString "writer") = some (.ref fw)) (Dp : Addr) (p0 p1 p2 : List Nat) (v0 v1 v2 : Tok) (pc0 : Pc x y z p0) (pc1 : Pc x y z p1) (pc2 : Pc x y z p2) (pn0 : p0 ≠ []) (lp : @LT.lt Nat _ G Dp) (hpn : m (PySem.Str.ofString "pieces") = some (.ref Dp)) (w0 w1 w2 : Int) (tp : Tok) (hpg : m (PySem.Str.ofString "page") = some (.str (S (pageL p0 p1 p2 w0 w1 w2)) tp))
    (hB : Below A₀ base outer g) (hF : Fr g L s.heap m) (hX : (hd.heap_1 w.params).In g) (hT : Top p loose mean mg mb g) (hr : dp + 30 < recursionLimit) (hu : un + 16 * 30 < cLine) (hC : CodeHd base 111 107) (h7 : @LT.lt Nat _ 107 L) (hN : News g L s.heap [(Dp, listOf [.str (S p0) v0, .str (S p1) v1, .str (S p2) v2].toArray 0), (G, tupObj [.str (S f0) u0, .str (S f1) u1, .str (S f2) u2]), (Dh, listOf [.int a0 t0, .int a1 t1, .int a2 t2].toArray 3), (L + 1 + 1 + 1 + 1 + 1 + 1 + 1, o7), (L + 1 + 1 + 1 + 1 + 1 + 1, o6), (L + 1 + 1 + 1 + 1 + 1, o5), (L + 1 + 1 + 1 + 1, o4), (L + 1 + 1 + 1, o3), (L + 1 + 1, o2), (L + 1, o1), (107, tabObj #[])])
    (next : ∀ (h' : Heap) (tk' : Nat) (o5' : Obj) (r : RP) (tl : Tok) (kp : Nat) (lf : List Value) (kl : Nat) (ps : Array Value), r.Ok → CharsAre lf (pageL p0 p1 p2 w0 w1 w2).reverse → @LT.lt Nat _ Dp r.aC → o5'.data = .cell (some (.ref r.aR)) →
      Fr g L h' m → News g L h' [(Dp, listOf [.str (S p0) v0, .str (S p1) v1, .str (S p2) v2].toArray 0), (G, tupObj [.str (S f0) u0, .str (S f1) u1, .str (S f2) u2]), (Dh, listOf [.int a0 t0, .int a1 t1, .int a2 t2].toArray 3), (L + 1 + 1 + 1 + 1 + 1 + 1 + 1, o7), (L + 1 + 1 + 1 + 1 + 1 + 1, o6), (L + 1 + 1 + 1 + 1 + 1, o5'), (L + 1 + 1 + 1 + 1, o4), (L + 1 + 1 + 1, o3), (L + 1 + 1, o2), (L + 1, o1), (r.aP, listOf (([] : List Value)).toArray kp), (r.aR, instObj 59 r.dR), (r.dR, dictOf [ent w.params "lineno" r.t1 (.int (1) tl), ent w.params "instream" r.t2 (.ref r.aS), ent w.params "whitespace" r.t3 (.str wsT r.t4), ent w.params "pushback" r.t5 (.ref r.aP)] 4), (r.aF, kla_obj (PySem.Str.ofString "<lambda>") r.q (lamArgs 154) (lamBody 154) lamScope [(PySem.Str.ofString "left", r.aC)] r.pm r.cF r.ctv), (r.cF, r.oc), (r.aP2, listOf #[] 0), (r.aS, instObj 59 r.dS), (r.dS, dictOf [ent w.params "lineno" r.s1 (.int 1 r.s0), ent w.params "instream" r.s2 .none, ent w.params "whitespace" r.s3 (.str wsT r.s4), ent w.params "pushback" r.s5 (.ref r.aP2), ent w.params "read" r.s6 (.ref r.aF)] 5), (r.aL, listOf (lf).toArray kl), (r.aC, r.oC), (107, tabObj ps)] →
      wpAny (model Challenge.pw_sc0056_01 w) (lawA dp un gd L fa ccd outer) (execs (lawBody.drop 6) (lawEnv L fa ccd)) Q E { s with heap := h', toks := tk' }) :
    wpAny (model Challenge.pw_sc0056_01 w) (lawA dp un gd L fa ccd outer) (execs (lawBody.drop 5) (lawEnv L fa ccd)) Q E s := by
  have hpl := page_len w0 w1 w2 pc0.2 pc1.2 pc2.2
  obtain ⟨hp, gns, dr, tk, os⟩ := s
  conv in (List.drop _ lawBody) => whnf
  (try clear sfl)
  walk1
  ((try clear sfl); have sfl : StopH := trivial)
  k_steps
  refine Stop9.go ?_
  rename Fr _ _ _ _ => F1
  rename News _ _ _ _ => N1
  k_dflt (refine con_reader (pageL p0 p1 p2 w0 w1 w2) _ (by omega) hB F1 hX hT ?kk ?kr ?ku hC (news_sub N1 (by lcg_sub)) fun r tl kp lf kl ps h' tk' ok hlf F2 N2 K2 O2 => ?_)
  case kk => rfl
  case kr => ktr_room
  case ku => ktr_units
  have lt1 : ∀ q ∈ [(Dp, listOf [.str (S p0) v0, .str (S p1) v1, .str (S p2) v2].toArray 0), (G, tupObj [.str (S f0) u0, .str (S f1) u1, .str (S f2) u2]), (Dh, listOf [.int a0 t0, .int a1 t1, .int a2 t2].toArray 3), (L + 1 + 1 + 1 + 1 + 1 + 1 + 1, o7), (L + 1 + 1 + 1 + 1 + 1 + 1, o6), (L + 1 + 1 + 1 + 1 + 1, o5), (L + 1 + 1 + 1 + 1, o4), (L + 1 + 1 + 1, o3), (L + 1 + 1, o2), (L + 1, o1)], @LT.lt Nat _ q.1 r.aC := fun q hq => Nat.lt_of_lt_of_le (Heap.lt_size (N1 q (List.mem_append_left [(107, tabObj #[])] hq)).1) (O2 (r.aC, r.oC) (by k_mem))
  have N3 : News g L h' ([(Dp, listOf [.str (S p0) v0, .str (S p1) v1, .str (S p2) v2].toArray 0), (G, tupObj [.str (S f0) u0, .str (S f1) u1, .str (S f2) u2]), (Dh, listOf [.int a0 t0, .int a1 t1, .int a2 t2].toArray 3), (L + 1 + 1 + 1 + 1 + 1 + 1 + 1, o7), (L + 1 + 1 + 1 + 1 + 1 + 1, o6), (L + 1 + 1 + 1 + 1 + 1, o5), (L + 1 + 1 + 1 + 1, o4), (L + 1 + 1 + 1, o3), (L + 1 + 1, o2), (L + 1, o1)] ++ (rdr 154 w.params r 1 tl [] kp lf kl ++ [(107, tabObj ps)])) := by
    intro q hq
    rcases List.mem_append.mp hq with hq | hq
    · have hq1 := N1 q (List.mem_append_left [(107, tabObj #[])] hq)
      refine ⟨K2 _ _ hq1.1 (fun hm => ?_), hq1.2⟩
      have e : q.1 = 107 := List.mem_singleton.mp hm
      have e2 : @LT.lt Nat _ 107 q.1 := by
        simp only [List.mem_cons, List.not_mem_nil, or_false] at hq
        rcases hq with rfl | rfl | rfl | rfl | rfl | rfl | rfl | rfl | rfl | rfl <;> (dsimp only; omega)
      rw [e] at e2
      exact absurd e2 (Nat.lt_irrefl _)
    · exact N2 q hq
  have ok' := ok
  have lz := lt1 (Dp, _) (.head _)
  obtain ⟨k1, k2, k3, k4, k5, k6, k7, k8, k9, k10, k11, k12⟩ := ok'
  clear N1 F1 N2 K2 O2 lt1
  dsimp only [rdr, rdr7, List.cons_append, List.nil_append] at N3 lz ⊢
  k_steps
  refine Stop9.go ?_
  rename Fr _ _ _ _ => F6
  rename News _ _ _ _ => N6
  rename _ = Data.cell (some (Value.ref r.aR)) => d5'
  exact next _ _ _ r tl kp lf kl ps ok hlf lz d5' F6 N6
end
section
theorem main7 {w : World} {p loose mean mg mb} {dp un : Nat} {gd : Option (List Code)} {L fa : Addr} {ccd : Value} {outer : List Env} {A₀ : Around} {base g : Heap} {m : PySem.Str → Option Value} {s : Shared} {Q : Flow → Shared → Prop} {E : Value → Shared → Prop}
    (o1 o2 o3 o4 o5 o6 o7 : Obj) (Dh G : Addr) (a0 a1 a2 : Int) (t0 t1 t2 : Tok) (q0 : 0 ≤ a0) (q1 : 0 ≤ a1) (q2 : 0 ≤ a2) (fw : Nat) (wr : List Nat → List Nat) (mk f0 f1 f2 : List Nat) (tm u0 u1 u2 : Tok) (hwr : (fw, wr, mk, f0, f1, f2) ∈ wrT) (d2 : o2.data = .cell (some (.ref Dh))) (d3 : o3.data = .cell (some (.str (S mk) tm))) (d4 : o4.data = .cell (some (.ref G))) (lh : @LT.lt Nat _ (L + 1 + 1 + 1 + 1 + 1 + 1 + 1) Dh) (lg : @LT.lt Nat _ Dh G) (x y z : Nat) (ts : Tok) (rx : R8 x) (ry : R8 y) (rz : R8 z) (hxy : x ≠ y) (hsg : m (PySem.Str.ofString "signs") = some (.str (S [x, y, z]) ts)) (hwn : m (PySem.Str.ofString "writer") = some (.ref fw)) (Dp : Addr) (p0 p1 p2 : List Nat) (v0 v1 v2 : Tok) (pc0 : Pc x y z p0) (pc1 : Pc x y z p1) (pc2 : Pc x y z p2) (pn0 : p0 ≠ []) (lp : @LT.lt Nat _ G Dp) (hpn : m (PySem.Str.ofString "pieces") = some (.ref Dp)) (w0 w1 w2 : Int) (tp : Tok) (hpg : m (PySem.Str.ofString "page") = some (.str (S (pageL p0 p1 p2 w0 w1 w2)) tp)) (r : RP) (ok : r.Ok) (kp : Nat) (ps : Array Value) (lr : @LT.lt Nat _ Dp r.aC) (d5 : o5.data = .cell (some (.ref r.aR))) (ln : Int) (tl : Tok) (lf : List Value) (kl : Nat) (hlf : CharsAre lf (rstL p0 p1 p2 w0 w1 w2 3).reverse) (hln : ln + ((rstL p0 p1 p2 w0 w1 w2 3).count 10 : Nat) = (1 + ((pageL p0 p1 p2 w0 w1 w2).count 10 : Nat) : Int)) (Hd : Addr) (b0 b1 b2 : Tok) (hhd : m (PySem.Str.ofString "heard") = some (.ref Hd)) (hof : Off1 Hd [(Dp, listOf [.str (S p0) v0, .str (S p1) v1, .str (S p2) v2].toArray 0), (G, tupObj [.str (S f0) u0, .str (S f1) u1, .str (S f2) u2]), (Dh, listOf [.int a0 t0, .int a1 t1, .int a2 t2].toArray 3), (L + 1 + 1 + 1 + 1 + 1 + 1 + 1, o7), (L + 1 + 1 + 1 + 1 + 1 + 1, o6), (L + 1 + 1 + 1 + 1 + 1, o5), (L + 1 + 1 + 1 + 1, o4), (L + 1 + 1 + 1, o3), (L + 1 + 1, o2), (L + 1, o1), (r.aP, listOf (([] : List Value)).toArray kp), (r.aR, instObj 59 r.dR), (r.dR, dictOf [ent w.params "lineno" r.t1 (.int (ln) tl), ent w.params "instream" r.t2 (.ref r.aS), ent w.params "whitespace" r.t3 (.str wsT r.t4), ent w.params "pushback" r.t5 (.ref r.aP)] 4), (r.aF, kla_obj (PySem.Str.ofString "<lambda>") r.q (lamArgs 154) (lamBody 154) lamScope [(PySem.Str.ofString "left", r.aC)] r.pm r.cF r.ctv), (r.cF, r.oc), (r.aP2, listOf #[] 0), (r.aS, instObj 59 r.dS), (r.dS, dictOf [ent w.params "lineno" r.s1 (.int 1 r.s0), ent w.params "instream" r.s2 .none, ent w.params "whitespace" r.s3 (.str wsT r.s4), ent w.params "pushback" r.s5 (.ref r.aP2), ent w.params "read" r.s6 (.ref r.aF)] 5), (r.aL, listOf (lf).toArray kl), (r.aC, r.oC), (107, tabObj ps)])
    (hB : Below A₀ base outer g) (hF : Fr g L s.heap m) (hX : (hd.heap_1 w.params).In g) (hT : Top p loose mean mg mb g) (hr : dp + 30 < recursionLimit) (hu : un + 16 * 30 < cLine) (hC : CodeHd base 111 107) (h7 : @LT.lt Nat _ 107 L) (hN : News g L s.heap ((Hd, listOf [.str (S p0) b0, .str (S p1) b1, .str (S p2) b2].toArray 3) :: [(Dp, listOf [.str (S p0) v0, .str (S p1) v1, .str (S p2) v2].toArray 0), (G, tupObj [.str (S f0) u0, .str (S f1) u1, .str (S f2) u2]), (Dh, listOf [.int a0 t0, .int a1 t1, .int a2 t2].toArray 3), (L + 1 + 1 + 1 + 1 + 1 + 1 + 1, o7), (L + 1 + 1 + 1 + 1 + 1 + 1, o6), (L + 1 + 1 + 1 + 1 + 1, o5), (L + 1 + 1 + 1 + 1, o4), (L + 1 + 1 + 1, o3), (L + 1 + 1, o2), (L + 1, o1), (r.aP, listOf (([] : List Value)).toArray kp), (r.aR, instObj 59 r.dR), (r.dR, dictOf [ent w.params "lineno" r.t1 (.int (ln) tl), ent w.params "instream" r.t2 (.ref r.aS), ent w.params "whitespace" r.t3 (.str wsT r.t4), ent w.params "pushback" r.t5 (.ref r.aP)] 4), (r.aF, kla_obj (PySem.Str.ofString "<lambda>") r.q (lamArgs 154) (lamBody 154) lamScope [(PySem.Str.ofString "left", r.aC)] r.pm r.cF r.ctv), (r.cF, r.oc), (r.aP2, listOf #[] 0), (r.aS, instObj 59 r.dS), (r.dS, dictOf [ent w.params "lineno" r.s1 (.int 1 r.s0), ent w.params "instream" r.s2 .none, ent w.params "whitespace" r.s3 (.str wsT r.s4), ent w.params "pushback" r.s5 (.ref r.aP2), ent w.params "read" r.s6 (.ref r.aF)] 5), (r.aL, listOf (lf).toArray kl), (r.aC, r.oC), (107, tabObj ps)]))
    (next : ∀ (h' : Heap) (tk' : Nat) (m' : PySem.Str → Option Value) (tr : Tok) (tl : Tok) (lf : List Value) (kl : Nat), Off1 Hd [(Dp, listOf [.str (S p0) v0, .str (S p1) v1, .str (S p2) v2].toArray 0), (G, tupObj [.str (S f0) u0, .str (S f1) u1, .str (S f2) u2]), (Dh, listOf [.int a0 t0, .int a1 t1, .int a2 t2].toArray 3), (L + 1 + 1 + 1 + 1 + 1 + 1 + 1, o7), (L + 1 + 1 + 1 + 1 + 1 + 1, o6), (L + 1 + 1 + 1 + 1 + 1, o5), (L + 1 + 1 + 1 + 1, o4), (L + 1 + 1 + 1, o3), (L + 1 + 1, o2), (L + 1, o1), (r.aP, listOf (([] : List Value)).toArray kp), (r.aR, instObj 59 r.dR), (r.dR, dictOf [ent w.params "lineno" r.t1 (.int ((1 + ((pageL p0 p1 p2 w0 w1 w2).count 10 : Nat) : Int)) tl), ent w.params "instream" r.t2 (.ref r.aS), ent w.params "whitespace" r.t3 (.str wsT r.t4), ent w.params "pushback" r.t5 (.ref r.aP)] 4), (r.aF, kla_obj (PySem.Str.ofString "<lambda>") r.q (lamArgs 154) (lamBody 154) lamScope [(PySem.Str.ofString "left", r.aC)] r.pm r.cF r.ctv), (r.cF, r.oc), (r.aP2, listOf #[] 0), (r.aS, instObj 59 r.dS), (r.dS, dictOf [ent w.params "lineno" r.s1 (.int 1 r.s0), ent w.params "instream" r.s2 .none, ent w.params "whitespace" r.s3 (.str wsT r.s4), ent w.params "pushback" r.s5 (.ref r.aP2), ent w.params "read" r.s6 (.ref r.aF)] 5), (r.aL, listOf (lf).toArray kl), (r.aC, r.oC), (107, tabObj ps)] →
      m' (PySem.Str.ofString "signs") = some (.str (S [x, y, z]) ts) → m' (PySem.Str.ofString "writer") = some (.ref fw) → m' (PySem.Str.ofString "pieces") = some (.ref Dp) → m' (PySem.Str.ofString "page") = some (.str (S (pageL p0 p1 p2 w0 w1 w2)) tp) → m' (PySem.Str.ofString "heard") = some (.ref Hd) → m' (PySem.Str.ofString "rest") = some (.str (S []) tr) →  Fr g L h' m' → News g L h' ((Hd, listOf [.str (S p0) b0, .str (S p1) b1, .str (S p2) b2].toArray 3) :: [(Dp, listOf [.str (S p0) v0, .str (S p1) v1, .str (S p2) v2].toArray 0), (G, tupObj [.str (S f0) u0, .str (S f1) u1, .str (S f2) u2]), (Dh, listOf [.int a0 t0, .int a1 t1, .int a2 t2].toArray 3), (L + 1 + 1 + 1 + 1 + 1 + 1 + 1, o7), (L + 1 + 1 + 1 + 1 + 1 + 1, o6), (L + 1 + 1 + 1 + 1 + 1, o5), (L + 1 + 1 + 1 + 1, o4), (L + 1 + 1 + 1, o3), (L + 1 + 1, o2), (L + 1, o1), (r.aP, listOf (([] : List Value)).toArray kp), (r.aR, instObj 59 r.dR), (r.dR, dictOf [ent w.params "lineno" r.t1 (.int ((1 + ((pageL p0 p1 p2 w0 w1 w2).count 10 : Nat) : Int)) tl), ent w.params "instream" r.t2 (.ref r.aS), ent w.params "whitespace" r.t3 (.str wsT r.t4), ent w.params "pushback" r.t5 (.ref r.aP)] 4), (r.aF, kla_obj (PySem.Str.ofString "<lambda>") r.q (lamArgs 154) (lamBody 154) lamScope [(PySem.Str.ofString "left", r.aC)] r.pm r.cF r.ctv), (r.cF, r.oc), (r.aP2, listOf #[] 0), (r.aS, instObj 59 r.dS), (r.dS, dictOf [ent w.params "lineno" r.s1 (.int 1 r.s0), ent w.params "instream" r.s2 .none, ent w.params "whitespace" r.s3 (.str wsT r.s4), ent w.params "pushback" r.s5 (.ref r.aP2), ent w.params "read" r.s6 (.ref r.aF)] 5), (r.aL, listOf (lf).toArray kl), (r.aC, r.oC), (107, tabObj ps)]) →
      wpAny (model Challenge.pw_sc0056_01 w) (lawA dp un gd L fa ccd outer) (execs (lawBody.drop 8) (lawEnv L fa ccd)) Q E { s with heap := h', toks := tk' }) :
    wpAny (model Challenge.pw_sc0056_01 w) (lawA dp un gd L fa ccd outer) (execs (lawBody.drop 7) (lawEnv L fa ccd)) Q E s := by
  have hpl := page_len w0 w1 w2 pc0.2 pc1.2 pc2.2
  obtain ⟨hp, gns, dr, tk, os⟩ := s
  conv in (List.drop _ lawBody) => whnf
  (try clear sfl)
  walk1
  ((try clear sfl); have sfl : StopH := trivial)
  k_steps
  refine Stop9.go (wpAny_call ?_)
  rename Fr _ _ _ _ => F5
  rename News _ _ _ _ => N5
  have hin : ∀ q ∈ rdr 154 w.params r ln tl [] kp lf kl, q ∈ [(Dp, listOf [.str (S p0) v0, .str (S p1) v1, .str (S p2) v2].toArray 0), (G, tupObj [.str (S f0) u0, .str (S f1) u1, .str (S f2) u2]), (Dh, listOf [.int a0 t0, .int a1 t1, .int a2 t2].toArray 3), (L + 1 + 1 + 1 + 1 + 1 + 1 + 1, o7), (L + 1 + 1 + 1 + 1 + 1 + 1, o6), (L + 1 + 1 + 1 + 1 + 1, o5), (L + 1 + 1 + 1 + 1, o4), (L + 1 + 1 + 1, o3), (L + 1 + 1, o2), (L + 1, o1), (r.aP, listOf (([] : List Value)).toArray kp), (r.aR, instObj 59 r.dR), (r.dR, dictOf [ent w.params "lineno" r.t1 (.int (ln) tl), ent w.params "instream" r.t2 (.ref r.aS), ent w.params "whitespace" r.t3 (.str wsT r.t4), ent w.params "pushback" r.t5 (.ref r.aP)] 4), (r.aF, kla_obj (PySem.Str.ofString "<lambda>") r.q (lamArgs 154) (lamBody 154) lamScope [(PySem.Str.ofString "left", r.aC)] r.pm r.cF r.ctv), (r.cF, r.oc), (r.aP2, listOf #[] 0), (r.aS, instObj 59 r.dS), (r.dS, dictOf [ent w.params "lineno" r.s1 (.int 1 r.s0), ent w.params "instream" r.s2 .none, ent w.params "whitespace" r.s3 (.str wsT r.s4), ent w.params "pushback" r.s5 (.ref r.aP2), ent w.params "read" r.s6 (.ref r.aF)] 5), (r.aL, listOf (lf).toArray kl), (r.aC, r.oC), (107, tabObj ps)] := by
    dsimp only [rdr, rdr7]
    lcg_sub
  have hsf := rst_suf (p0 := p0) (p1 := p1) (p2 := p2) (w0 := w0) (w1 := w1) (w2 := w2) 3
  k_dflt (refine con_gt r ok ln tl kp lf kl (rstL p0 p1 p2 w0 w1 w2 3) [] [] hlf ?hl ?h8 tok_last _ _ _ _ _ _ _ _ _ _ _ _ _ _ ⟨_, _, _, _, _⟩ _ _ hB F5 hX hT ?kk ?kr ?ku hC (news_sub N5 fun q hq => .tail _ (hin q hq)) fun v post h' tk' F' N' K' R => ?_)
  case hl =>
    have := hsf.length_le
    omega
  case h8 => exact suf_all hsf (page_lt (pc_r8 rx ry rz pc0) (pc_r8 rx ry rz pc1) (pc_r8 rx ry rz pc2))
  case kk => rfl
  case kr => ktr_room
  case ku => ktr_units
  obtain ⟨t9, ln9, tl9, lf9, kl9, rfl, rfl, hc9, hn9⟩ := R
  obtain rfl : ln9 = (1 + ((pageL p0 p1 p2 w0 w1 w2).count 10 : Nat) : Int) := by
    rw [hln] at hn9
    simpa using hn9
  have No : News g L h' ((Hd, listOf [.str (S p0) b0, .str (S p1) b1, .str (S p2) b2].toArray 3) :: [(Dp, listOf [.str (S p0) v0, .str (S p1) v1, .str (S p2) v2].toArray 0), (G, tupObj [.str (S f0) u0, .str (S f1) u1, .str (S f2) u2]), (Dh, listOf [.int a0 t0, .int a1 t1, .int a2 t2].toArray 3), (L + 1 + 1 + 1 + 1 + 1 + 1 + 1, o7), (L + 1 + 1 + 1 + 1 + 1 + 1, o6), (L + 1 + 1 + 1 + 1 + 1, o5), (L + 1 + 1 + 1 + 1, o4), (L + 1 + 1 + 1, o3), (L + 1 + 1, o2), (L + 1, o1), (107, tabObj ps)] ++ rdr 154 w.params r (1 + ((pageL p0 p1 p2 w0 w1 w2).count 10 : Nat) : Int) tl9 [] kp lf9 kl9) := by
    refine con_own (news_sub N5 ?s1) K' N' ?s2
    case s1 => lcg_sub
    case s2 =>
      intro p hp
      rcases List.mem_cons.mp hp with rfl | hp
      · exact notin_off fun q hq => off1_mem hof q (hin q hq)
      refine notin_lt ok ?_
      simp only [List.mem_cons, List.not_mem_nil, or_false] at hp
      rcases hp with rfl | rfl | rfl | rfl | rfl | rfl | rfl | rfl | rfl | rfl | rfl <;> (dsimp only; omega)
  clear N5 F5 N' K'
  dsimp only [rdr, rdr7, List.cons_append, List.nil_append] at No ⊢
  k_steps
  refine Stop9.go ?_
  rename Fr _ _ _ _ => F6
  rename News _ _ _ _ => N6
  exact next _ _ _ t9 tl9 lf9 kl9 hof (by exact hsg) (by exact hwn) (by exact hpn) (by exact hpg) (by exact hhd) (by rfl) F6 (news_sub N6 (by lcg_sub))
end
section
local macro_rules | `(tactic| walk_at "zz0") => `(tactic| fail)
local macro_rules | `(tactic| walk_at "zz1") => `(tactic| fail)
local macro_rules | `(tactic| walk_at "zz2") => `(tactic| fail)
theorem main8 {w : World} {p loose mean mg mb} {dp un : Nat} {gd : Option (List Code)} {L fa : Addr} {ccd : Value} {outer : List Env} {A₀ : Around} {base g : Heap} {m : PySem.Str → Option Value} {s : Shared} {Q : Flow → Shared → Prop} {E : Value → Shared → Prop}
    (o1 o2 o3 o4 o5 o6 o7 : Obj) (Dh G : Addr) (a0 a1 a2 : Int) (t0 t1 t2 : Tok) (q0 : 0 ≤ a0) (q1 : 0 ≤ a1) (q2 : 0 ≤ a2) (fw : Nat) (wr : List Nat → List Nat) (mk f0 f1 f2 : List Nat) (tm u0 u1 u2 : Tok) (hwr : (fw, wr, mk, f0, f1, f2) ∈ wrT) (d2 : o2.data = .cell (some (.ref Dh))) (d3 : o3.data = .cell (some (.str (S mk) tm))) (d4 : o4.data = .cell (some (.ref G))) (d6 : o6.data = .cell none) (lh : @LT.lt Nat _ (L + 1 + 1 + 1 + 1 + 1 + 1 + 1) Dh) (lg : @LT.lt Nat _ Dh G) (x y z : Nat) (ts : Tok) (rx : R8 x) (ry : R8 y) (rz : R8 z) (hxy : x ≠ y) (hsg : m (PySem.Str.ofString "signs") = some (.str (S [x, y, z]) ts)) (hwn : m (PySem.Str.ofString "writer") = some (.ref fw)) (Dp : Addr) (p0 p1 p2 : List Nat) (v0 v1 v2 : Tok) (pc0 : Pc x y z p0) (pc1 : Pc x y z p1) (pc2 : Pc x y z p2) (pn0 : p0 ≠ []) (lp : @LT.lt Nat _ G Dp) (hpn : m (PySem.Str.ofString "pieces") = some (.ref Dp)) (w0 w1 w2 : Int) (tp : Tok) (hpg : m (PySem.Str.ofString "page") = some (.str (S (pageL p0 p1 p2 w0 w1 w2)) tp)) (r : RP) (ok : r.Ok) (kp : Nat) (ps : Array Value) (lr : @LT.lt Nat _ Dp r.aC) (d5 : o5.data = .cell (some (.ref r.aR))) (tl : Tok) (lf : List Value) (kl : Nat) (Hd : Addr) (b0 b1 b2 : Tok) (hhd : m (PySem.Str.ofString "heard") = some (.ref Hd)) (tr : Tok) (hrs : m (PySem.Str.ofString "rest") = some (.str (S []) tr)) (hof : Off1 Hd [(Dp, listOf [.str (S p0) v0, .str (S p1) v1, .str (S p2) v2].toArray 0), (G, tupObj [.str (S f0) u0, .str (S f1) u1, .str (S f2) u2]), (Dh, listOf [.int a0 t0, .int a1 t1, .int a2 t2].toArray 3), (L + 1 + 1 + 1 + 1 + 1 + 1 + 1, o7), (L + 1 + 1 + 1 + 1 + 1 + 1, o6), (L + 1 + 1 + 1 + 1 + 1, o5), (L + 1 + 1 + 1 + 1, o4), (L + 1 + 1 + 1, o3), (L + 1 + 1, o2), (L + 1, o1), (r.aP, listOf (([] : List Value)).toArray kp), (r.aR, instObj 59 r.dR), (r.dR, dictOf [ent w.params "lineno" r.t1 (.int ((1 + ((pageL p0 p1 p2 w0 w1 w2).count 10 : Nat) : Int)) tl), ent w.params "instream" r.t2 (.ref r.aS), ent w.params "whitespace" r.t3 (.str wsT r.t4), ent w.params "pushback" r.t5 (.ref r.aP)] 4), (r.aF, kla_obj (PySem.Str.ofString "<lambda>") r.q (lamArgs 154) (lamBody 154) lamScope [(PySem.Str.ofString "left", r.aC)] r.pm r.cF r.ctv), (r.cF, r.oc), (r.aP2, listOf #[] 0), (r.aS, instObj 59 r.dS), (r.dS, dictOf [ent w.params "lineno" r.s1 (.int 1 r.s0), ent w.params "instream" r.s2 .none, ent w.params "whitespace" r.s3 (.str wsT r.s4), ent w.params "pushback" r.s5 (.ref r.aP2), ent w.params "read" r.s6 (.ref r.aF)] 5), (r.aL, listOf (lf).toArray kl), (r.aC, r.oC), (107, tabObj ps)])
    (hB : Below A₀ base outer g) (hF : Fr g L s.heap m) (hX : (hd.heap_1 w.params).In g) (hT : Top p loose mean mg mb g) (hr : dp + 30 < recursionLimit) (hu : un + 16 * 30 < cLine) (hC : CodeHd base 111 107) (h7 : @LT.lt Nat _ 107 L) (hN : News g L s.heap ((Hd, listOf [.str (S p0) b0, .str (S p1) b1, .str (S p2) b2].toArray 3) :: [(Dp, listOf [.str (S p0) v0, .str (S p1) v1, .str (S p2) v2].toArray 0), (G, tupObj [.str (S f0) u0, .str (S f1) u1, .str (S f2) u2]), (Dh, listOf [.int a0 t0, .int a1 t1, .int a2 t2].toArray 3), (L + 1 + 1 + 1 + 1 + 1 + 1 + 1, o7), (L + 1 + 1 + 1 + 1 + 1 + 1, o6), (L + 1 + 1 + 1 + 1 + 1, o5), (L + 1 + 1 + 1 + 1, o4), (L + 1 + 1 + 1, o3), (L + 1 + 1, o2), (L + 1, o1), (r.aP, listOf (([] : List Value)).toArray kp), (r.aR, instObj 59 r.dR), (r.dR, dictOf [ent w.params "lineno" r.t1 (.int ((1 + ((pageL p0 p1 p2 w0 w1 w2).count 10 : Nat) : Int)) tl), ent w.params "instream" r.t2 (.ref r.aS), ent w.params "whitespace" r.t3 (.str wsT r.t4), ent w.params "pushback" r.t5 (.ref r.aP)] 4), (r.aF, kla_obj (PySem.Str.ofString "<lambda>") r.q (lamArgs 154) (lamBody 154) lamScope [(PySem.Str.ofString "left", r.aC)] r.pm r.cF r.ctv), (r.cF, r.oc), (r.aP2, listOf #[] 0), (r.aS, instObj 59 r.dS), (r.dS, dictOf [ent w.params "lineno" r.s1 (.int 1 r.s0), ent w.params "instream" r.s2 .none, ent w.params "whitespace" r.s3 (.str wsT r.s4), ent w.params "pushback" r.s5 (.ref r.aP2), ent w.params "read" r.s6 (.ref r.aF)] 5), (r.aL, listOf (lf).toArray kl), (r.aC, r.oC), (107, tabObj ps)]))
    (next : ∀ (h' : Heap) (tk' : Nat) (tt : Tok) (o6' : Obj), o6'.data = .cell (some (.str (S (grownL p0 p1 p2 a2)) tt)) → Off1 Hd [(Dp, listOf [.str (S p0) v0, .str (S p1) v1, .str (S p2) v2].toArray 0), (G, tupObj [.str (S f0) u0, .str (S f1) u1, .str (S f2) u2]), (Dh, listOf [.int a0 t0, .int a1 t1, .int a2 t2].toArray 3), (L + 1 + 1 + 1 + 1 + 1 + 1 + 1, o7), (L + 1 + 1 + 1 + 1 + 1 + 1, o6'), (L + 1 + 1 + 1 + 1 + 1, o5), (L + 1 + 1 + 1 + 1, o4), (L + 1 + 1 + 1, o3), (L + 1 + 1, o2), (L + 1, o1), (r.aP, listOf (([] : List Value)).toArray kp), (r.aR, instObj 59 r.dR), (r.dR, dictOf [ent w.params "lineno" r.t1 (.int ((1 + ((pageL p0 p1 p2 w0 w1 w2).count 10 : Nat) : Int)) tl), ent w.params "instream" r.t2 (.ref r.aS), ent w.params "whitespace" r.t3 (.str wsT r.t4), ent w.params "pushback" r.t5 (.ref r.aP)] 4), (r.aF, kla_obj (PySem.Str.ofString "<lambda>") r.q (lamArgs 154) (lamBody 154) lamScope [(PySem.Str.ofString "left", r.aC)] r.pm r.cF r.ctv), (r.cF, r.oc), (r.aP2, listOf #[] 0), (r.aS, instObj 59 r.dS), (r.dS, dictOf [ent w.params "lineno" r.s1 (.int 1 r.s0), ent w.params "instream" r.s2 .none, ent w.params "whitespace" r.s3 (.str wsT r.s4), ent w.params "pushback" r.s5 (.ref r.aP2), ent w.params "read" r.s6 (.ref r.aF)] 5), (r.aL, listOf (lf).toArray kl), (r.aC, r.oC), (107, tabObj ps)] →
      Fr g L h' m → News g L h' ((Hd, listOf [.str (S p0) b0, .str (S p1) b1, .str (S p2) b2].toArray 3) :: [(Dp, listOf [.str (S p0) v0, .str (S p1) v1, .str (S p2) v2].toArray 0), (G, tupObj [.str (S f0) u0, .str (S f1) u1, .str (S f2) u2]), (Dh, listOf [.int a0 t0, .int a1 t1, .int a2 t2].toArray 3), (L + 1 + 1 + 1 + 1 + 1 + 1 + 1, o7), (L + 1 + 1 + 1 + 1 + 1 + 1, o6'), (L + 1 + 1 + 1 + 1 + 1, o5), (L + 1 + 1 + 1 + 1, o4), (L + 1 + 1 + 1, o3), (L + 1 + 1, o2), (L + 1, o1), (r.aP, listOf (([] : List Value)).toArray kp), (r.aR, instObj 59 r.dR), (r.dR, dictOf [ent w.params "lineno" r.t1 (.int ((1 + ((pageL p0 p1 p2 w0 w1 w2).count 10 : Nat) : Int)) tl), ent w.params "instream" r.t2 (.ref r.aS), ent w.params "whitespace" r.t3 (.str wsT r.t4), ent w.params "pushback" r.t5 (.ref r.aP)] 4), (r.aF, kla_obj (PySem.Str.ofString "<lambda>") r.q (lamArgs 154) (lamBody 154) lamScope [(PySem.Str.ofString "left", r.aC)] r.pm r.cF r.ctv), (r.cF, r.oc), (r.aP2, listOf #[] 0), (r.aS, instObj 59 r.dS), (r.dS, dictOf [ent w.params "lineno" r.s1 (.int 1 r.s0), ent w.params "instream" r.s2 .none, ent w.params "whitespace" r.s3 (.str wsT r.s4), ent w.params "pushback" r.s5 (.ref r.aP2), ent w.params "read" r.s6 (.ref r.aF)] 5), (r.aL, listOf (lf).toArray kl), (r.aC, r.oC), (107, tabObj ps)]) →
      wpAny (model Challenge.pw_sc0056_01 w) (lawA dp un gd L fa ccd outer) (execs (lawBody.drop 9) (lawEnv L fa ccd)) Q E { s with heap := h', toks := tk' }) :
    wpAny (model Challenge.pw_sc0056_01 w) (lawA dp un gd L fa ccd outer) (execs (lawBody.drop 8) (lawEnv L fa ccd)) Q E s := by
  obtain ⟨hp, gns, dr, tk, os⟩ := s
  conv in (List.drop _ lawBody) => whnf
  (try clear sfl)
  walk1
  ((try clear sfl); have sfl : StopH := trivial)
  k_steps
  refine Stop9.go (wpAny_call ?_)
  rename Fr _ _ _ _ => F5
  rename News _ _ _ _ => N5
  k_dflt (refine con_grown Hd 3 p0 p1 p2 b0 b1 b2 _ a2 q2 pc0.2 pc1.2 pc2.2 _ _ _ _ _ _ _ _ _ _ _ _ _ _ ⟨_, _, _, _, _⟩ _ _ hB F5 hX hT ?kk ?kr ?ku hC (news_sub N5 ?s0) fun v post h' tk' F' N' K' R => ?_)
  case s0 => lcg_sub
  case kk => rfl
  case kr => ktr_room
  case ku => ktr_units
  obtain ⟨⟨t9, rfl⟩, rfl⟩ := R
  have No : News g L h' ([(Dp, listOf [.str (S p0) v0, .str (S p1) v1, .str (S p2) v2].toArray 0), (G, tupObj [.str (S f0) u0, .str (S f1) u1, .str (S f2) u2]), (Dh, listOf [.int a0 t0, .int a1 t1, .int a2 t2].toArray 3), (L + 1 + 1 + 1 + 1 + 1 + 1 + 1, o7), (L + 1 + 1 + 1 + 1 + 1 + 1, o6), (L + 1 + 1 + 1 + 1 + 1, o5), (L + 1 + 1 + 1 + 1, o4), (L + 1 + 1 + 1, o3), (L + 1 + 1, o2), (L + 1, o1), (r.aP, listOf (([] : List Value)).toArray kp), (r.aR, instObj 59 r.dR), (r.dR, dictOf [ent w.params "lineno" r.t1 (.int ((1 + ((pageL p0 p1 p2 w0 w1 w2).count 10 : Nat) : Int)) tl), ent w.params "instream" r.t2 (.ref r.aS), ent w.params "whitespace" r.t3 (.str wsT r.t4), ent w.params "pushback" r.t5 (.ref r.aP)] 4), (r.aF, kla_obj (PySem.Str.ofString "<lambda>") r.q (lamArgs 154) (lamBody 154) lamScope [(PySem.Str.ofString "left", r.aC)] r.pm r.cF r.ctv), (r.cF, r.oc), (r.aP2, listOf #[] 0), (r.aS, instObj 59 r.dS), (r.dS, dictOf [ent w.params "lineno" r.s1 (.int 1 r.s0), ent w.params "instream" r.s2 .none, ent w.params "whitespace" r.s3 (.str wsT r.s4), ent w.params "pushback" r.s5 (.ref r.aP2), ent w.params "read" r.s6 (.ref r.aF)] 5), (r.aL, listOf (lf).toArray kl), (r.aC, r.oC), (107, tabObj ps)] ++ [(Hd, listOf [.str (S p0) b0, .str (S p1) b1, .str (S p2) b2].toArray 3)]) := by
    refine con_own (news_sub N5 ?s1) K' N' ?s2
    case s1 => lcg_sub
    case s2 =>
      intro p hp hm
      exact off1_mem hof p hp (List.mem_singleton.mp hm)
  have ok' := ok
  obtain ⟨k1, k2, k3, k4, k5, k6, k7, k8, k9, k10, k11, k12⟩ := ok'
  clear N5 F5 N' K'
  dsimp only [List.cons_append, List.nil_append] at No ⊢
  k_steps
  refine Stop9.go ?_
  rename Fr _ _ _ _ => F6
  rename News _ _ _ _ => N6
  rename _ = Data.cell (some (Value.str (S (grownL p0 p1 p2 a2)) _)) => d6'
  exact next _ _ _ _ d6' hof F6 (news_sub N6 (by lcg_sub))
end
section
example : True := by
  k_with_none
  w_top off
  k_with "olt" => (first | assumption | ((fail_if_success refine oM ?_); refine oL ?_; k_extra "ole") | k_extra "olh")
  k_with "olh" => (refine oH (by assumption) (by k_extra "ole"))
  k_with "ole" => (first | exact Nat.le_refl _ | assumption | exact oB | ((first | refine oA ?_ | refine oA2 ?_ | refine oA3 ?_); k_extra "ocl") | (refine oS ?_; k_extra "ole") | (refine Nat.le_of_lt ?_; (first | assumption | k_extra "olh")) | exact oE)
  k_with "olt2" => (first | k_extra "oas" | ((fail_if_success refine oM ?_); refine oL ?_; k_extra "ole2") | k_extra "olh2")
  k_with "olh2" => (refine oH (by k_extra "oas") (by k_extra "ole2"))
  k_with "ole2" => (first | exact Nat.le_refl _ | k_extra "oas" | exact oB | ((first | refine oA ?_ | refine oA2 ?_ | refine oA3 ?_); k_extra "ocl") | (refine oS ?_; k_extra "ole2") | (refine Nat.le_of_lt ?_; (first | k_extra "oas" | k_extra "olh2")) | exact oE)
  k_with "opu" => (first | exact oB | exact Nat.le_refl _ | (refine oS ?_; k_extra "opu"))
  k_with "olt0" => (refine oL ?_; k_extra "opu")
  k_with "one" => (first | (refine Nat.ne_of_gt ?_; (fail_if_success refine oM ?_); k_extra "olt0") | (refine Nat.ne_of_lt ?_; (fail_if_success refine oM ?_); k_extra "olt0") | exact Ne.symm (by assumption) | (refine Nat.ne_of_gt ?_; (fail_if_success refine oM ?_); k_extra "oas") | (refine Nat.ne_of_lt ?_; (fail_if_success refine oM ?_); k_extra "oas") | (refine Nat.ne_of_gt ?_; (fail_if_success refine oM ?_); k_extra "odd") | (refine Nat.ne_of_lt ?_; (fail_if_success refine oM ?_); k_extra "odd") | (refine Nat.ne_of_gt ?_; (fail_if_success refine oM ?_); k_extra "olt") | (refine Nat.ne_of_lt ?_; (fail_if_success refine oM ?_); k_extra "olt") | (refine Nat.ne_of_gt ?_; (fail_if_success refine oM ?_); k_extra "olt2") | (refine Nat.ne_of_lt ?_; (fail_if_success refine oM ?_); k_extra "olt2") | decide)
  k_with "ol1" => (first | ((fail_if_success refine oM ?_); first | k_extra "oas" | k_extra "olt0" | k_extra "odd" | k_extra "olt" | k_extra "olt2") | k_extra "ocl" | exact oT0 | exact oT5)
  k_with "oe1" => (first | ((fail_if_success refine oN ?_); first | k_extra "oas" | k_extra "opu" | k_extra "ole" | k_extra "ole2" | exact oE (by k_extra "oas")) | k_extra "ocl" | k_extra "olit" | k_extra "oas")
  k_with "olit" => (first | exact oT4 | exact oP | exact oP2 | exact oT1 | exact oT2 | exact oT3 | exact oQ5 | exact oQ1 | exact oQ2 | exact oQ3 | exact oQ4 | exact oQ6 | exact oD)
  k_with "ocl" => (with_unfolding_all exact Nat.le_of_ble_eq_true rfl)
  k_with "oas" => (first | assumption | exact oa1 | exact ob1 | exact oa2 | exact ob2 | exact oa3 | exact ob3 | exact oa4 | exact ob4 | exact oa5 | exact ob5 | exact oa6 | exact ob6 | exact oa7 | exact ob7)
  k_with "odd" => (first | exact oa1 ob7 | exact oa2 ob7 | exact oa3 ob7 | exact oa4 ob7 | exact oa5 ob7 | exact oa6 ob7 | exact oa7 ob7 | exact oa1 (ob7 ob7) | exact oa2 (ob7 ob7) | exact oa3 (ob7 ob7) | exact oa4 (ob7 ob7) | exact oa5 (ob7 ob7) | exact oa6 (ob7 ob7) | exact oa7 (ob7 ob7) | exact ob1 ob7 | exact ob2 ob7 | exact ob3 ob7 | exact ob4 ob7 | exact ob5 ob7 | exact ob6 ob7 | exact ob7 ob7)
  k_with "oin" => (first | decide | exact oI1 | exact oI3 | exact oI2 (by k_extra "oas"))
  k_with "om" => (with_reducible first | (first | assumption | ((fail_if_success fail_if_success refine oXn ?_); k_extra "one") | ((fail_if_success fail_if_success refine oXl ?_); k_extra "ol1") | ((fail_if_success fail_if_success refine oXe ?_); k_extra "oe1") | k_extra "oin") | fail)
  k_with "S_fit" => (first | omega | ((simp only [S_len, List.length_append, List.length_cons, List.length_nil, List.length_take, List.length_drop, dots, PySem.sizeLine_eq]); omega))
  k_with "call builtin:len" => (((with_reducible show wpAny _ _ (call (Value.builtin "len") [Value.str (S _) _]) _ _ _); refine r_len (by walk_at "S_fit") ?_))
  k_with "call builtin:str.startswith" => (((with_reducible show wpAny _ _ (call (Value.builtin "str.startswith") [Value.str (S _) _, Value.str (S _) _]) _ _ _); refine r_starts ?_))
  k_with "call builtin:str.endswith" => (((with_reducible show wpAny _ _ (call (Value.builtin "str.endswith") [Value.str (S _) _, Value.str (S _) _]) _ _ _); refine r_ends ?_))
  k_with "truthy str" => (((with_reducible show wpAny _ _ (truthy (Value.str (S _) _)) _ _ _); refine r_truthy (by walk_at "S_fit") ?_))
  k_with "exec For Name Name cons nil" => ((k_here; (rename Fr _ _ _ _ => Z6Xa); (with_unfolding_all refine' For_invVF Z6Xa ?Q6Xa ?Q6Xb ?_; (case Q6Xa => exact rfl); (case Q6Xb => exact rfl); k_whole)))
  k_with "pyIter ref" => (((with_reducible show wpAny _ _ (pyIter (Value.ref _)) (fun it s₂ => LoopAtV _ _ _ _ _ _ _ _ _ it s₂) _ _); k_listUnr))
  k_with "S_enter" => ((refine' code_defG (news := []) ?Q8Xa ?Q8Xb ?Q8Xc ?Q8Xd ?Q8Xe ?Q8Xf ?Q8Xg ?Q8Xh ?Q8Xi ?Q8Xj ?Q8Xk ?Q8Xl ?Q8Xm ?_ ?Q8Xn ?Q8Xo ?Q8Xp ?Q8Xq; (case Q8Xf => exact rfl); (case Q8Xg => exact rfl); (case Q8Xh => assumption); (case Q8Xa => k_asm); (case Q8Xb => k_asm); (case Q8Xc => k_asm); (case Q8Xd => exact News.nil); (case Q8Xe => k_asm); (case Q8Xi => k_is); (case Q8Xj => k_is); (case Q8Xk => ktr_room); (case Q8Xl => exact BindsTo.of_eq rfl); (case Q8Xq => decide); (case Q8Xm => exact locs rfl); (case Q8Xn => exact rfl); (case Q8Xo => exact rfl); (case Q8Xp => exact rfl); k_whole; intro Z8Xh Z8Xd Z8Xi Z8Xc Z8Xb Z8Xe Z8Xa Z8Xg Z8Xf Z8Xj; (try dsimp only [List.map_nil] at Z8Xj); (try dsimp only); (try k_lift Z8Xa); (try k_fold)))
  k_with "S_look" => (first | exact rfl | assumption | exact (if_pos rfl) | (refine (if_neg (by decide)).trans ?_; walk_at "S_look"))
  k_with "eval Name" => ((k_here; k_dflt (refine' nameX_L ?QaXa ?QaXb ?_ ?QaXc ?QaXd; (case QaXa => k_asm); (case QaXc => rfl); (case QaXd => rfl); (case QaXb => walk_at "S_look"); k_whole)))
  k_with "S_lit" => (first | (with_reducible exact lit_dots) | (with_reducible rfl))
  k_with "S_nn" => (first | omega | ((simp only [List.length_append, List.length_cons, List.length_nil, List.length_take, List.length_drop, dots] at *); omega))
  k_with "binaryOp Add str str" => (((with_reducible show wpAny _ _ (binaryOp _ (Value.str _ _) (Value.str _ _)) _ _ _); k_dflt (refine r_add (by walk_at "S_lit") (by walk_at "S_lit") (by walk_at "S_fit") ?_); intro _ _))
  k_with "subscriptTail Name Slice str ref" => (((with_reducible show wpAny _ _ (subscriptTail _ (Expr.Slice none (some _) none _) (Value.str (S _) _) _) _ _ _); (with_reducible rename Fr _ _ _ _ => ZeXa); (with_reducible rename News _ _ _ _ => ZeXb); (refine r_sliceTo (s := ⟨_, _, _, _, _⟩) ZeXa ZeXb (by walk_at "S_nn") (by walk_at "S_fit") ?_); intro _ _ _ _ _))
  k_with "subscriptTail Name Slice str ref" => (((with_reducible show wpAny _ _ (subscriptTail _ (Expr.Slice (some _) none none _) (Value.str (S _) _) _) _ _ _); (with_reducible rename Fr _ _ _ _ => ZfXa); (with_reducible rename News _ _ _ _ => ZfXb); (refine r_sliceFrom (s := ⟨_, _, _, _, _⟩) ZfXa ZfXb (by walk_at "S_nn") (by walk_at "S_fit") ?_); intro _ _ _ _ _))
  k_with "exec For Name Call cons nil" => ((k_here; (rename Fr _ _ _ _ => ZgXa); (with_unfolding_all refine' For_invVF ZgXa ?QgXa ?QgXb ?_; (case QgXa => exact rfl); (case QgXb => exact rfl); k_whole)))
  k_with "S_use" => ((refine' pcon_use ?QhXa ?QhXb ?QhXc ?QhXd ?QhXe ?QhXf ?QhXg ?QhXh ?_; (case QhXb => k_asm); (case QhXc => k_asm); (case QhXd => k_asm); (case QhXe => k_asm); (case QhXa => walk_at "S_con"); (case QhXf => first | exact rfl | assumption); (case QhXg => ktr_room); (case QhXh => ktr_units)))
  k_with "call ref" => ((k_here; k_dflt (walk_at "S_use"); intro ZiXf ZiXd ZiXe ZiXb; (have ZiXa := Fr.keeps (by k_asm) ZiXb); (have ZiXc := News.grown (by k_asm) ZiXb); walk_at "S_back" <;> ((try dsimp only); (try k_fold))))
  k_with "pyIter ref" => (k_extra "S_loop")
  k_with "S_bool" => ((intro ZkXa; (rcases bool_or ZkXa with ⟨R8, R7⟩ | ⟨R8, R7⟩) <;> subst R7))
  k_with "call builtin:list.append" => ((k_here; (with_reducible show wpAny _ _ (call (Value.builtin _) [Value.ref _, _]) _ _ _); k_dflt (refine' append_K ?QlXa ?QlXb ?QlXc ?_ ?QlXd; (case QlXa => k_asm); (case QlXb => k_asm); (case QlXc => k_upd); (case QlXd => exact size_ok (k := 100000) (by omega) (by decide)); k_whole); intro ZlXc ZlXa ZlXb; (try k_sweep)))
  k_with "m_k_room" => (ktr_room)
  k_with "m_k_units" => (ktr_units)
  k_with "S_enterM" => ((refine' code_defG ?QoXa ?QoXb ?QoXc ?QoXd ?QoXe ?QoXf ?QoXg ?QoXh ?QoXi ?QoXj ?QoXk ?QoXl ?QoXm ?_ ?QoXn ?QoXo ?QoXp ?QoXq; (case QoXf => exact rfl); (case QoXg => exact rfl); (case QoXh => assumption); (case QoXa => k_asm); (case QoXb => k_asm); (case QoXc => k_asm); (case QoXd => k_asm); (case QoXe => k_asm); (case QoXi => k_is); (case QoXj => k_is); (case QoXk => ktr_room); (case QoXl => exact BindsTo.of_eq rfl); (case QoXq => decide); (case QoXm => exact locs rfl); (case QoXn => exact rfl); (case QoXo => exact rfl); (case QoXp => exact rfl); k_whole; intro ZoXh ZoXd ZoXi ZoXc ZoXb ZoXe ZoXa ZoXg ZoXf ZoXj; (try dsimp only [List.map_nil, List.map_cons] at ZoXj); (try dsimp only); (try k_lift ZoXa); (try k_fold)))
  k_with "callWith" => (((with_reducible show wpAny _ _ (callWith _ (Prod.fst _) (Prod.snd _) _ _) _ _ _); dsimp only))
  k_with "S_int" => (first | omega | decide | ((simp only [List.length_cons, List.length_nil, decide_eq_true_eq, decide_eq_false_iff_not, beq_iff_eq, beq_eq_false_iff_ne, ne_eq, Int.not_lt, Int.not_le] at *); omega))
  k_with "binaryOp FloorDiv int int" => (((with_reducible show wpAny _ _ (binaryOp _ (Value.int _ _) (Value.int _ _)) _ _ _); k_dflt (refine r_fdiv (by walk_at "S_int") (by walk_at "S_int") ?_); intro _ _))
  k_with "binaryOp Mod int int" => (((with_reducible show wpAny _ _ (binaryOp _ (Value.int _ _) (Value.int _ _)) _ _ _); k_dflt (refine r_fmod (by walk_at "S_int") ?_); intro _ _))
  k_with "S_item" => (((with_reducible show wpAny _ _ (subscriptTail _ _ (Value.str (S _) _) (Value.int _ _)) _ _ _); k_dflt (refine r_item (by walk_at "S_int") (by walk_at "S_int") (by walk_at "S_fit") ?_); intro _ _))
  k_with "subscriptTail Name BinOp str int" => (walk_at "S_item")
  k_with "subscriptTail Name Constant str int" => (walk_at "S_item")
  k_with "subscriptTail Name Name str int" => (walk_at "S_item")
  k_with "S_lit" => (first | (with_reducible exact lit_dots) | (with_reducible exact lit_empty) | (with_reducible exact lit34) | (with_reducible exact lit9234) | (with_reducible exact lit92) | (with_reducible exact lit10) | (with_reducible exact lit38) | (with_reducible exact lit59) | (with_reducible rfl))
  k_with "call builtin:str.replace" => (((with_reducible show wpAny _ _ (call (Value.builtin _) [Value.str (S _) _, Value.str _ _, Value.str _ _]) _ _ _); k_dflt (refine r_replace (by walk_at "S_lit") (by walk_at "S_lit") (by decide) (Nat.succ_ne_zero _) (Nat.succ_ne_zero _) (Nat.ne_of_lt (Nat.lt_succ_self _)) (by decide) (by walk_at "S_nn") ?_); intro _ _))
  k_with "call builtin:str.join" => ((k_here; (with_reducible show wpAny _ _ (call (Value.builtin _) [Value.str _ _, Value.ref _]) _ _ _); k_dflt (refine r_join (by walk_at "S_lit") (by walk_at "S_isl") (by walk_at "S_strs") (by walk_at "S_sum") ?_); intro _ _))
  k_with "S_isl" => (first | assumption | exact ⟨LCg.lst _, News.get (by k_asm) (by k_mem), rfl, _, rfl⟩ | is_list)
  k_with "S_strs" => (first | exact StrsAre.nil | assumption | (exact CharsAre.strs (by assumption)))
  k_with "binaryOp Mult str int" => (((with_reducible show wpAny _ _ (binaryOp _ (Value.str (S _) _) (Value.int _ _)) _ _ _); k_dflt (refine r_mul (by walk_at "S_int") (by walk_at "S_int") (by walk_at "S_nn") ?_); intro _ _))
  k_with "S_enterC" => ((refine' code_defCG ?Q13Xa ?Q13Xb ?Q13Xc ?Q13Xd ?Q13Xe ?Q13Xf ?Q13Xg ?Q13Xh ?Q13Xi ?Q13Xj ?Q13Xk ?Q13Xl ?Q13Xm ?Q13Xn ?_ ?Q13Xo ?Q13Xp ?Q13Xq; (case Q13Xf => exact rfl); (case Q13Xg => exact rfl); (case Q13Xh => assumption); (case Q13Xa => k_asm); (case Q13Xb => k_asm); (case Q13Xc => k_asm); (case Q13Xd => k_asm); (case Q13Xe => k_asm); (case Q13Xi => k_is); (case Q13Xj => k_is); (case Q13Xk => ktr_room); (case Q13Xl => exact BindsTo.of_eq rfl); (case Q13Xm => rfl); (case Q13Xn => decide); (case Q13Xo => exact rfl); (case Q13Xp => exact rfl); (case Q13Xq => exact rfl); k_whole; intro Z13Xj Z13Xd Z13Xk Z13Xo Z13Xi Z13Xc Z13Xb Z13Xe Z13Xh Z13Xa Z13Xg Z13Xf Z13Xm Z13Xl Z13Xn; (try dsimp only [List.map_nil, List.map_cons] at Z13Xl); (try k_lt Z13Xm); k_cells Z13Xh; (try simp only [List.cons_append, List.nil_append] at Z13Xe); (try dsimp only); (try k_lift Z13Xa); (try k_fold)))
  k_with "S_lcs" => ((k_here; k_dflt (refine ListComp_S (_F₀ := by k_asm) (by rfl) (by decide) (by rfl) (by decide) (by rfl) ?_)))
  k_with "S_lit" => (first | (with_reducible exact lit_dots) | (with_reducible exact lit_empty) | (with_reducible exact lit34) | (with_reducible exact lit9234) | (with_reducible exact lit92) | (with_reducible exact lit10) | (with_reducible exact lit38) | (with_reducible exact lit59) | (with_reducible exact lit60) | (with_reducible exact lit62) | (with_reducible exact lit13) | (with_reducible exact lit9) | (with_reducible exact litamp) | (with_reducible exact litlt) | (with_reducible exact litgt) | (with_reducible exact litquot) | (with_reducible rfl))
  k_with "S_sum" => (assumption)
  k_with "eval ListComp" => ((k_here; (with_reducible show wpAny _ _ (eval (PySem.Expr.ListComp _ [⟨PySem.Expr.Tuple _ _ _, _, [], 0⟩] _ _) _) _ _ _); k_dflt (refine ListComp_E (_F₀ := by k_asm) (by rfl) (by decide) (by rfl) (by decide) (by rfl) (by rfl) (by decide) ?_)))
  k_with "eval ListComp" => ((k_here; (with_reducible show wpAny _ _ (eval (PySem.Expr.ListComp _ [⟨PySem.Expr.Name _ _, _, [], 0⟩] _ _) _) _ _ _); k_dflt (refine LCg.ListComp_U (F₀ := by k_asm) (by rfl) (by decide) (by rfl) (by decide) (by rfl) ?_)))
  k_with "call type:enumerate" => (refine stop9 ?_)
  k_with "exec Assign cons ListComp" => ((k_here; k_dflt (refine wpAny_Assign_Name ?_ (by rfl))))
  k_with "CompSrc" => (refine stop9 ?_)
  k_with "CompEnd" => (refine stop9 ?_)
  k_with "FinE" => (((unfold LCg.FinE); intro Z1dXa Z1dXd Z1dXf Z1dXb Z1dXc Z1dXe; (try simp only [List.nil_append, List.cons_append] at Z1dXc); (try dsimp only)))
  k_with "FinA" => (((unfold LCg.FinA); intro Z1eXa Z1eXd Z1eXf Z1eXb Z1eXc Z1eXe; (try simp only [List.nil_append, List.cons_append] at Z1eXc); (try dsimp only)))
  k_with "m_k_ne" => (first | (refine neN ?_; (try dsimp only); omega) | exact off1_ne (by assumption) (by k_mem) | exact Ne.symm (off1_ne (by assumption) (by k_mem)))
  k_with "eval ListComp" => ((k_here; (with_reducible show wpAny _ _ (eval (PySem.Expr.ListComp _ [⟨PySem.Expr.Name _ _, _, [_], 0⟩] _ _) _) _ _ _); k_dflt (refine LCt.ListComp_T (F₀ := by k_asm) (by rfl) (by decide) (by rfl) (by decide) (by rfl) ?_)))
  k_with "CompSrcT" => (refine stop9 ?_)
  k_with "S_laps" => ((intro Z1iXf; obtain ⟨Z1iXa, Z1iXj, Z1iXi, Z1iXh, Z1iXc, Z1iXd, Z1iXe⟩ := Z1iXf; subst Z1iXh; (obtain ⟨Z1iXb, Z1iXg⟩ := news_add (by k_asm) (by k_asm) (by k_asm) Z1iXc Z1iXd)))
  k_with "S_il" => (((rename News _ _ _ _ => Z1jXa); exact ⟨_, News.get Z1jXa (by k_mem), rfl, _, rfl⟩))
  k_with "subscriptTail Name Slice ref ref" => ((k_here; (with_reducible show wpAny _ _ (subscriptTail _ (PySem.Expr.Slice (some _) (some _) (some _) _) (Value.ref _) (Value.ref _)) _ _ _); k_dflt (refine' r_sliceInts ?Q1kXa ?Q1kXb ?Q1kXc ?Q1kXd ?Q1kXe ?Q1kXf ?Q1kXg ?Q1kXh ?_ ?Q1kXi ?Q1kXj ?Q1kXk; (case Q1kXa => k_asm); (case Q1kXb => k_asm); (case Q1kXc => assumption); (case Q1kXd => exact IsPart.int _ _); (case Q1kXe => exact IsPart.int _ _); (case Q1kXf => exact IsPart.int _ _); (case Q1kXg => decide); (case Q1kXh => assumption); (case Q1kXi => with_unfolding_all rfl); (case Q1kXj => (intro _; with_unfolding_all rfl)); (case Q1kXk => omega)); intro Z1kXa Z1kXh Z1kXg Z1kXd Z1kXb Z1kXc Z1kXf Z1kXe; (try k_lt Z1kXf)))
  k_with "call builtin:sum" => ((k_here; (with_reducible show wpAny _ _ (call (Value.builtin "sum") [Value.ref _]) _ _ _); k_dflt (refine' PyProof.Rows.sum_ints ?Q1lXa ?Q1lXb ?Q1lXc ?Q1lXd ?Q1lXe ?_; (case Q1lXa => k_asm); (case Q1lXb => k_asm); (case Q1lXc => rfl); (case Q1lXd => walk_at "S_isl"); (case Q1lXe => assumption)); intro Z1lXc Z1lXe Z1lXd Z1lXa Z1lXb))
  k_with "exec Assign cons Subscript" => (refine stop9 ?_)
  k_with "execs cons" => (((have _sf : StopH := by assumption); clear _sf; refine stop9 ?_))
  trivial
theorem main0 {w : World} {p loose mean mg mb} {dp un : Nat} {gd : Option (List Code)} {L fa : Addr} {ccd : Value} {outer : List Env} {A₀ : Around} {base g : Heap} {m : PySem.Str → Option Value} {s : Shared} {Q : Flow → Shared → Prop} {E : Value → Shared → Prop}
    (l : Addr) (vs : List Value) (ns : List Int) (hI : IntsAre vs ns) (hlen : ns.length ≤ 63) (hl : g.IsList l vs.toArray) (o1 o2 o3 o4 o5 o6 o7 : Obj)
    (d1 : o1.data = .cell (some (.ref l))) (d2 : o2.data = .cell none) (d3 : o3.data = .cell none) (d4 : o4.data = .cell none) (d5 : o5.data = .cell none) (d6 : o6.data = .cell none) (d7 : o7.data = .cell none)
    (hB : Below A₀ base outer g) (hF : Fr g L s.heap m) (hX : (hd.heap_1 w.params).In g) (hT : Top p loose mean mg mb g) (hr : dp + 30 < recursionLimit) (hu : un + 16 * 30 < cLine) (hC : CodeHd base 111 107)
    (hN : News g L s.heap [(L + 1 + 1 + 1 + 1 + 1 + 1 + 1, o7), (L + 1 + 1 + 1 + 1 + 1 + 1, o6), (L + 1 + 1 + 1 + 1 + 1, o5), (L + 1 + 1 + 1 + 1, o4), (L + 1 + 1 + 1, o3), (L + 1 + 1, o2), (L + 1, o1), (107, tabObj #[])]) (h7 : @LT.lt Nat _ 107 L)
    (next : ∀ (h' : Heap) (tk' : Nat) (o2' : Obj) (Dh : Addr) (a0 a1 a2 : Int) (t0 t1 t2 : Tok), 0 ≤ a0 → 0 ≤ a1 → 0 ≤ a2 → o2'.data = .cell (some (.ref Dh)) → @LT.lt Nat _ (L + 1 + 1 + 1 + 1 + 1 + 1 + 1) Dh → Fr g L h' m →
      News g L h' [(Dh, listOf [.int a0 t0, .int a1 t1, .int a2 t2].toArray 3), (L + 1 + 1 + 1 + 1 + 1 + 1 + 1, o7), (L + 1 + 1 + 1 + 1 + 1 + 1, o6), (L + 1 + 1 + 1 + 1 + 1, o5), (L + 1 + 1 + 1 + 1, o4), (L + 1 + 1 + 1, o3), (L + 1 + 1, o2'), (L + 1, o1), (107, tabObj #[])] →
      wpAny (model Challenge.pw_sc0056_01 w) (lawA dp un gd L fa ccd outer) (execs (lawBody.drop 1) (lawEnv L fa ccd)) Q E { s with heap := h', toks := tk' }) :
    wpAny (model Challenge.pw_sc0056_01 w) (lawA dp un gd L fa ccd outer) (execs lawBody (lawEnv L fa ccd)) Q E s := by
  obtain ⟨hp, gns, dr, tk, os⟩ := s
  conv in lawBody => whnf
  (try clear sfl)
  k_steps
  refine Stop9.go ?_
  rename Fr _ _ _ _ => F1
  rename News _ _ _ _ => N1
  k_dflt (refine srcE_tuple rfl F1 N1 (.head _) (Nat.le_of_ble_eq_true rfl) fun h' => ?_)
  refine restE_ind (J := fun i ys news => (∃ hs, IntsAre ys hs ∧ hs.length = i ∧ ∀ x ∈ hs, (0 : Int) ≤ x) ∧ news = _) ?step ?fin _ 0 _ _ (Nat.zero_add _) ⟨⟨[], .nil, rfl, by simp⟩, rfl⟩
  case step =>
    clear N1 F1
    rintro i v t ys news e oe it oi C oC D m2 h2 tk2 E9 hi hP ⟨⟨hs, hJ1, hJ2, hJ3⟩, rfl⟩ hC2 hx hx2 F2 N2 off off1 ne
    have hv : ∃ n t, v = Value.int n t ∧ 0 ≤ n := by
      have hi' : i < 3 := hi
      rcases i with _ | _ | _ | i
      · cases hP; exact ⟨_, _, rfl, by decide⟩
      · cases hP; exact ⟨_, _, rfl, by decide⟩
      · cases hP; exact ⟨_, _, rfl, by decide⟩
      · omega
    obtain ⟨n, tn, rfl, hn⟩ := hv
    clear hP
    dsimp only
    k_steps
    refine Stop9.go ?_
    rename Fr _ _ _ _ => F3
    rename News _ _ _ _ => N3
    rename IntsAre _ _ ∧ _ => hms
    obtain ⟨hms, hms2⟩ := hms
    k_dflt (refine CompSrc.ledger rfl F3 N3 (.head _) ?sz fun g' => ?_)
    case sz =>
      have := hms.length
      rw [List.size_toArray, PySem.sizeLine_eq]; omega
    refine rest_ind (J := fun i ys news => (∃ hs, IntsAre ys hs ∧ ∀ x ∈ hs, (0 : Int) ≤ x) ∧ news = _) ?step2 ?fin2 _ 0 _ _ (Nat.zero_add _) ⟨⟨[], .nil, by simp⟩, rfl⟩
    case step2 =>
      clear N3 F3 N2 F2
      rintro i2 v2 ys2 news2 I2 oI2 C2 oC2 D2 m3 h3 tk3 E3 hi2 hP2 ⟨⟨hs2, hK1, hK2⟩, rfl⟩ hC3 hx3 F4 N4 off4 ne4
      obtain ⟨n2, t2, rfl⟩ := ints_get hms hP2
      dsimp only
      k_steps
      refine Stop9.go ?_
      rename Fr _ _ _ _ => F5
      rename News _ _ _ _ => N5
      refine CompEnd.intro F5 N5 _ ?sub off4 ?src ⟨⟨hs2 ++ [n2 % 1000000], ints_snoc hK1, fun x hx => ?_⟩, rfl⟩
      case sub => lcg_sub
      case src => lcg_src
      rcases List.mem_append.mp hx with hx | hx
      · exact hK2 x hx
      · rw [List.mem_singleton.mp hx]; exact Int.emod_nonneg _ (by decide)
    case fin2 =>
      clear N3 F3 N2 F2
      rintro ys2 news2 ⟨⟨hs2, hK1, hK2⟩, rfl⟩
      dsimp only
      k_steps
      refine Stop9.go ?_
      rename Fr _ _ _ _ => F5
      rename News _ _ _ _ => N5
      refine CompEnd.intro F5 N5 ((it, oi) :: _) ?sub off (keyIn_mk (.head _) off1) ⟨⟨hs ++ [n + hs2.sum], ints_snoc hJ1, by simp [hJ2], fun x hx => ?_⟩, rfl⟩
      case sub => lcg_sub
      rcases List.mem_append.mp hx with hx | hx
      · exact hJ3 x hx
      · rw [List.mem_singleton.mp hx]
        have := sum_nonneg hK2
        omega
  case fin =>
    rintro ys news ⟨⟨hs, hJ1, hJ2, hJ3⟩, rfl⟩
    clear N1 F1
    intro Dh h5 tk5 F5 N5 o5 lt5
    k_lt lt5
    obtain ⟨a0, a1, a2, t0, t1, t2, rfl, q0, q1, q2⟩ := ints3 hJ1 hJ2 hJ3
    ((try clear sfl); have sfl : StopH := trivial)
    dsimp only
    k_steps
    refine Stop9.go ?_
    rename Fr _ _ _ _ => F6
    rename News _ _ _ _ => N6
    rename _ = Data.cell (some (Value.ref Dh)) => d2'
    refine next _ _ _ Dh a0 a1 a2 t0 t1 t2 q0 q1 q2 d2' (by omega) F6 (news_sub N6 ?_)
    lcg_sub
end
section
local macro_rules | `(tactic| walk_at "zz0") => `(tactic| fail)
local macro_rules | `(tactic| walk_at "zz1") => `(tactic| fail)
local macro_rules | `(tactic| walk_at "zz2") => `(tactic| fail)
example : True := by
  k_with_none
  w_top off
  k_with "olt" => (first | assumption | ((fail_if_success refine oM ?_); refine oL ?_; k_extra "ole") | k_extra "olh")
  k_with "olh" => (refine oH (by assumption) (by k_extra "ole"))
  k_with "ole" => (first | exact Nat.le_refl _ | assumption | exact oB | ((first | refine oA ?_ | refine oA2 ?_ | refine oA3 ?_); k_extra "ocl") | (refine oS ?_; k_extra "ole") | (refine Nat.le_of_lt ?_; (first | assumption | k_extra "olh")) | exact oE)
  k_with "olt2" => (first | k_extra "oas" | ((fail_if_success refine oM ?_); refine oL ?_; k_extra "ole2") | k_extra "olh2")
  k_with "olh2" => (refine oH (by k_extra "oas") (by k_extra "ole2"))
  k_with "ole2" => (first | exact Nat.le_refl _ | k_extra "oas" | exact oB | ((first | refine oA ?_ | refine oA2 ?_ | refine oA3 ?_); k_extra "ocl") | (refine oS ?_; k_extra "ole2") | (refine Nat.le_of_lt ?_; (first | k_extra "oas" | k_extra "olh2")) | exact oE)
  k_with "opu" => (first | exact oB | exact Nat.le_refl _ | (refine oS ?_; k_extra "opu"))
  k_with "olt0" => (refine oL ?_; k_extra "opu")
  k_with "one" => (first | (refine Nat.ne_of_gt ?_; (fail_if_success refine oM ?_); k_extra "olt0") | (refine Nat.ne_of_lt ?_; (fail_if_success refine oM ?_); k_extra "olt0") | exact Ne.symm (by assumption) | (refine Nat.ne_of_gt ?_; (fail_if_success refine oM ?_); k_extra "oas") | (refine Nat.ne_of_lt ?_; (fail_if_success refine oM ?_); k_extra "oas") | (refine Nat.ne_of_gt ?_; (fail_if_success refine oM ?_); k_extra "odd") | (refine Nat.ne_of_lt ?_; (fail_if_success refine oM ?_); k_extra "odd") | (refine Nat.ne_of_gt ?_; (fail_if_success refine oM ?_); k_extra "olt") | (refine Nat.ne_of_lt ?_; (fail_if_success refine oM ?_); k_extra "olt") | (refine Nat.ne_of_gt ?_; (fail_if_success refine oM ?_); k_extra "olt2") | (refine Nat.ne_of_lt ?_; (fail_if_success refine oM ?_); k_extra "olt2") | decide)
  k_with "ol1" => (first | ((fail_if_success refine oM ?_); first | k_extra "oas" | k_extra "olt0" | k_extra "odd" | k_extra "olt" | k_extra "olt2") | k_extra "ocl" | exact oT0 | exact oT5)
  k_with "oe1" => (first | ((fail_if_success refine oN ?_); first | k_extra "oas" | k_extra "opu" | k_extra "ole" | k_extra "ole2" | exact oE (by k_extra "oas")) | k_extra "ocl" | k_extra "olit" | k_extra "oas")
  k_with "olit" => (first | exact oT4 | exact oP | exact oP2 | exact oT1 | exact oT2 | exact oT3 | exact oQ5 | exact oQ1 | exact oQ2 | exact oQ3 | exact oQ4 | exact oQ6 | exact oD)
  k_with "ocl" => (with_unfolding_all exact Nat.le_of_ble_eq_true rfl)
  k_with "oas" => (first | assumption | exact oa1 | exact ob1 | exact oa2 | exact ob2 | exact oa3 | exact ob3 | exact oa4 | exact ob4 | exact oa5 | exact ob5 | exact oa6 | exact ob6 | exact oa7 | exact ob7)
  k_with "odd" => (first | exact oa1 ob7 | exact oa2 ob7 | exact oa3 ob7 | exact oa4 ob7 | exact oa5 ob7 | exact oa6 ob7 | exact oa7 ob7 | exact oa1 (ob7 ob7) | exact oa2 (ob7 ob7) | exact oa3 (ob7 ob7) | exact oa4 (ob7 ob7) | exact oa5 (ob7 ob7) | exact oa6 (ob7 ob7) | exact oa7 (ob7 ob7) | exact ob1 ob7 | exact ob2 ob7 | exact ob3 ob7 | exact ob4 ob7 | exact ob5 ob7 | exact ob6 ob7 | exact ob7 ob7)
  k_with "oin" => (first | decide | exact oI1 | exact oI3 | exact oI2 (by k_extra "oas"))
  k_with "om" => (with_reducible first | (first | assumption | ((fail_if_success fail_if_success refine oXn ?_); k_extra "one") | ((fail_if_success fail_if_success refine oXl ?_); k_extra "ol1") | ((fail_if_success fail_if_success refine oXe ?_); k_extra "oe1") | k_extra "oin") | fail)
  k_with "S_fit" => (first | omega | ((simp only [S_len, List.length_append, List.length_cons, List.length_nil, List.length_take, List.length_drop, dots, PySem.sizeLine_eq]); omega))
  k_with "call builtin:len" => (((with_reducible show wpAny _ _ (call (Value.builtin "len") [Value.str (S _) _]) _ _ _); refine r_len (by walk_at "S_fit") ?_))
  k_with "call builtin:str.startswith" => (((with_reducible show wpAny _ _ (call (Value.builtin "str.startswith") [Value.str (S _) _, Value.str (S _) _]) _ _ _); refine r_starts ?_))
  k_with "call builtin:str.endswith" => (((with_reducible show wpAny _ _ (call (Value.builtin "str.endswith") [Value.str (S _) _, Value.str (S _) _]) _ _ _); refine r_ends ?_))
  k_with "truthy str" => (((with_reducible show wpAny _ _ (truthy (Value.str (S _) _)) _ _ _); refine r_truthy (by walk_at "S_fit") ?_))
  k_with "exec For Name Name cons nil" => ((k_here; (rename Fr _ _ _ _ => Z6Xa); (with_unfolding_all refine' For_invVF Z6Xa ?Q6Xa ?Q6Xb ?_; (case Q6Xa => exact rfl); (case Q6Xb => exact rfl); k_whole)))
  k_with "pyIter ref" => (((with_reducible show wpAny _ _ (pyIter (Value.ref _)) (fun it s₂ => LoopAtV _ _ _ _ _ _ _ _ _ it s₂) _ _); k_listUnr))
  k_with "S_enter" => ((refine' code_defG (news := []) ?Q8Xa ?Q8Xb ?Q8Xc ?Q8Xd ?Q8Xe ?Q8Xf ?Q8Xg ?Q8Xh ?Q8Xi ?Q8Xj ?Q8Xk ?Q8Xl ?Q8Xm ?_ ?Q8Xn ?Q8Xo ?Q8Xp ?Q8Xq; (case Q8Xf => exact rfl); (case Q8Xg => exact rfl); (case Q8Xh => assumption); (case Q8Xa => k_asm); (case Q8Xb => k_asm); (case Q8Xc => k_asm); (case Q8Xd => exact News.nil); (case Q8Xe => k_asm); (case Q8Xi => k_is); (case Q8Xj => k_is); (case Q8Xk => ktr_room); (case Q8Xl => exact BindsTo.of_eq rfl); (case Q8Xq => decide); (case Q8Xm => exact locs rfl); (case Q8Xn => exact rfl); (case Q8Xo => exact rfl); (case Q8Xp => exact rfl); k_whole; intro Z8Xh Z8Xd Z8Xi Z8Xc Z8Xb Z8Xe Z8Xa Z8Xg Z8Xf Z8Xj; (try dsimp only [List.map_nil] at Z8Xj); (try dsimp only); (try k_lift Z8Xa); (try k_fold)))
  k_with "S_look" => (first | exact rfl | assumption | exact (if_pos rfl) | (refine (if_neg (by decide)).trans ?_; walk_at "S_look"))
  k_with "eval Name" => ((k_here; k_dflt (refine' nameX_L ?QaXa ?QaXb ?_ ?QaXc ?QaXd; (case QaXa => k_asm); (case QaXc => rfl); (case QaXd => rfl); (case QaXb => walk_at "S_look"); k_whole)))
  k_with "S_lit" => (first | (with_reducible exact lit_dots) | (with_reducible rfl))
  k_with "S_nn" => (first | omega | ((simp only [List.length_append, List.length_cons, List.length_nil, List.length_take, List.length_drop, dots] at *); omega))
  k_with "binaryOp Add str str" => (((with_reducible show wpAny _ _ (binaryOp _ (Value.str _ _) (Value.str _ _)) _ _ _); k_dflt (refine r_add (by walk_at "S_lit") (by walk_at "S_lit") (by walk_at "S_fit") ?_); intro _ _))
  k_with "subscriptTail Name Slice str ref" => (((with_reducible show wpAny _ _ (subscriptTail _ (Expr.Slice none (some _) none _) (Value.str (S _) _) _) _ _ _); (with_reducible rename Fr _ _ _ _ => ZeXa); (with_reducible rename News _ _ _ _ => ZeXb); (refine r_sliceTo (s := ⟨_, _, _, _, _⟩) ZeXa ZeXb (by walk_at "S_nn") (by walk_at "S_fit") ?_); intro _ _ _ _ _))
  k_with "subscriptTail Name Slice str ref" => (((with_reducible show wpAny _ _ (subscriptTail _ (Expr.Slice (some _) none none _) (Value.str (S _) _) _) _ _ _); (with_reducible rename Fr _ _ _ _ => ZfXa); (with_reducible rename News _ _ _ _ => ZfXb); (refine r_sliceFrom (s := ⟨_, _, _, _, _⟩) ZfXa ZfXb (by walk_at "S_nn") (by walk_at "S_fit") ?_); intro _ _ _ _ _))
  k_with "exec For Name Call cons nil" => ((k_here; (rename Fr _ _ _ _ => ZgXa); (with_unfolding_all refine' For_invVF ZgXa ?QgXa ?QgXb ?_; (case QgXa => exact rfl); (case QgXb => exact rfl); k_whole)))
  k_with "S_use" => ((refine' pcon_use ?QhXa ?QhXb ?QhXc ?QhXd ?QhXe ?QhXf ?QhXg ?QhXh ?_; (case QhXb => k_asm); (case QhXc => k_asm); (case QhXd => k_asm); (case QhXe => k_asm); (case QhXa => walk_at "S_con"); (case QhXf => first | exact rfl | assumption); (case QhXg => ktr_room); (case QhXh => ktr_units)))
  k_with "call ref" => ((k_here; k_dflt (walk_at "S_use"); intro ZiXf ZiXd ZiXe ZiXb; (have ZiXa := Fr.keeps (by k_asm) ZiXb); (have ZiXc := News.grown (by k_asm) ZiXb); walk_at "S_back" <;> ((try dsimp only); (try k_fold))))
  k_with "pyIter ref" => (k_extra "S_loop")
  k_with "S_bool" => ((intro ZkXa; (rcases bool_or ZkXa with ⟨R8, R7⟩ | ⟨R8, R7⟩) <;> subst R7))
  k_with "call builtin:list.append" => ((k_here; (with_reducible show wpAny _ _ (call (Value.builtin _) [Value.ref _, _]) _ _ _); k_dflt (refine' append_K ?QlXa ?QlXb ?QlXc ?_ ?QlXd; (case QlXa => k_asm); (case QlXb => k_asm); (case QlXc => k_upd); (case QlXd => exact size_ok (k := 100000) (by omega) (by decide)); k_whole); intro ZlXc ZlXa ZlXb; (try k_sweep)))
  k_with "m_k_room" => (ktr_room)
  k_with "m_k_units" => (ktr_units)
  k_with "S_enterM" => ((refine' code_defG ?QoXa ?QoXb ?QoXc ?QoXd ?QoXe ?QoXf ?QoXg ?QoXh ?QoXi ?QoXj ?QoXk ?QoXl ?QoXm ?_ ?QoXn ?QoXo ?QoXp ?QoXq; (case QoXf => exact rfl); (case QoXg => exact rfl); (case QoXh => assumption); (case QoXa => k_asm); (case QoXb => k_asm); (case QoXc => k_asm); (case QoXd => k_asm); (case QoXe => k_asm); (case QoXi => k_is); (case QoXj => k_is); (case QoXk => ktr_room); (case QoXl => exact BindsTo.of_eq rfl); (case QoXq => decide); (case QoXm => exact locs rfl); (case QoXn => exact rfl); (case QoXo => exact rfl); (case QoXp => exact rfl); k_whole; intro ZoXh ZoXd ZoXi ZoXc ZoXb ZoXe ZoXa ZoXg ZoXf ZoXj; (try dsimp only [List.map_nil, List.map_cons] at ZoXj); (try dsimp only); (try k_lift ZoXa); (try k_fold)))
  k_with "callWith" => (((with_reducible show wpAny _ _ (callWith _ (Prod.fst _) (Prod.snd _) _ _) _ _ _); dsimp only))
  k_with "S_int" => (first | omega | decide | ((simp only [List.length_cons, List.length_nil, decide_eq_true_eq, decide_eq_false_iff_not, beq_iff_eq, beq_eq_false_iff_ne, ne_eq, Int.not_lt, Int.not_le] at *); omega))
  k_with "binaryOp FloorDiv int int" => (((with_reducible show wpAny _ _ (binaryOp _ (Value.int _ _) (Value.int _ _)) _ _ _); k_dflt (refine r_fdiv (by walk_at "S_int") (by walk_at "S_int") ?_); intro _ _))
  k_with "binaryOp Mod int int" => (((with_reducible show wpAny _ _ (binaryOp _ (Value.int _ _) (Value.int _ _)) _ _ _); k_dflt (refine r_fmod (by walk_at "S_int") ?_); intro _ _))
  k_with "S_item" => (((with_reducible show wpAny _ _ (subscriptTail _ _ (Value.str (S _) _) (Value.int _ _)) _ _ _); k_dflt (refine r_item (by walk_at "S_int") (by walk_at "S_int") (by walk_at "S_fit") ?_); intro _ _))
  k_with "subscriptTail Name BinOp str int" => (walk_at "S_item")
  k_with "subscriptTail Name Constant str int" => (walk_at "S_item")
  k_with "subscriptTail Name Name str int" => (walk_at "S_item")
  k_with "S_lit" => (first | (with_reducible exact lit_dots) | (with_reducible exact lit_empty) | (with_reducible exact lit34) | (with_reducible exact lit9234) | (with_reducible exact lit92) | (with_reducible exact lit10) | (with_reducible exact lit38) | (with_reducible exact lit59) | (with_reducible rfl))
  k_with "call builtin:str.replace" => (((with_reducible show wpAny _ _ (call (Value.builtin _) [Value.str (S _) _, Value.str _ _, Value.str _ _]) _ _ _); k_dflt (refine r_replace (by walk_at "S_lit") (by walk_at "S_lit") (by decide) (Nat.succ_ne_zero _) (Nat.succ_ne_zero _) (Nat.ne_of_lt (Nat.lt_succ_self _)) (by decide) (by walk_at "S_nn") ?_); intro _ _))
  k_with "call builtin:str.join" => ((k_here; (with_reducible show wpAny _ _ (call (Value.builtin _) [Value.str _ _, Value.ref _]) _ _ _); k_dflt (refine r_join (by walk_at "S_lit") (by walk_at "S_isl") (by walk_at "S_strs") (by walk_at "S_sum") ?_); intro _ _))
  k_with "S_isl" => (first | assumption | exact ⟨LCg.lst _, News.get (by k_asm) (by k_mem), rfl, _, rfl⟩ | is_list)
  k_with "S_strs" => (first | exact StrsAre.nil | assumption | (exact CharsAre.strs (by assumption)))
  k_with "binaryOp Mult str int" => (((with_reducible show wpAny _ _ (binaryOp _ (Value.str (S _) _) (Value.int _ _)) _ _ _); k_dflt (refine r_mul (by walk_at "S_int") (by walk_at "S_int") (by walk_at "S_nn") ?_); intro _ _))
  k_with "S_enterC" => ((refine' code_defCG ?Q13Xa ?Q13Xb ?Q13Xc ?Q13Xd ?Q13Xe ?Q13Xf ?Q13Xg ?Q13Xh ?Q13Xi ?Q13Xj ?Q13Xk ?Q13Xl ?Q13Xm ?Q13Xn ?_ ?Q13Xo ?Q13Xp ?Q13Xq; (case Q13Xf => exact rfl); (case Q13Xg => exact rfl); (case Q13Xh => assumption); (case Q13Xa => k_asm); (case Q13Xb => k_asm); (case Q13Xc => k_asm); (case Q13Xd => k_asm); (case Q13Xe => k_asm); (case Q13Xi => k_is); (case Q13Xj => k_is); (case Q13Xk => ktr_room); (case Q13Xl => exact BindsTo.of_eq rfl); (case Q13Xm => rfl); (case Q13Xn => decide); (case Q13Xo => exact rfl); (case Q13Xp => exact rfl); (case Q13Xq => exact rfl); k_whole; intro Z13Xj Z13Xd Z13Xk Z13Xo Z13Xi Z13Xc Z13Xb Z13Xe Z13Xh Z13Xa Z13Xg Z13Xf Z13Xm Z13Xl Z13Xn; (try dsimp only [List.map_nil, List.map_cons] at Z13Xl); (try k_lt Z13Xm); k_cells Z13Xh; (try simp only [List.cons_append, List.nil_append] at Z13Xe); (try dsimp only); (try k_lift Z13Xa); (try k_fold)))
  k_with "S_lcs" => ((k_here; k_dflt (refine ListComp_S (_F₀ := by k_asm) (by rfl) (by decide) (by rfl) (by decide) (by rfl) ?_)))
  k_with "S_lit" => (first | (with_reducible exact lit_dots) | (with_reducible exact lit_empty) | (with_reducible exact lit34) | (with_reducible exact lit9234) | (with_reducible exact lit92) | (with_reducible exact lit10) | (with_reducible exact lit38) | (with_reducible exact lit59) | (with_reducible exact lit60) | (with_reducible exact lit62) | (with_reducible exact lit13) | (with_reducible exact lit9) | (with_reducible exact litamp) | (with_reducible exact litlt) | (with_reducible exact litgt) | (with_reducible exact litquot) | (with_reducible rfl))
  k_with "S_sum" => (assumption)
  k_with "eval ListComp" => ((k_here; (with_reducible show wpAny _ _ (eval (PySem.Expr.ListComp _ [⟨PySem.Expr.Tuple _ _ _, _, [], 0⟩] _ _) _) _ _ _); k_dflt (refine ListComp_E (_F₀ := by k_asm) (by rfl) (by decide) (by rfl) (by decide) (by rfl) (by rfl) (by decide) ?_)))
  k_with "eval ListComp" => ((k_here; (with_reducible show wpAny _ _ (eval (PySem.Expr.ListComp _ [⟨PySem.Expr.Name _ _, _, [], 0⟩] _ _) _) _ _ _); k_dflt (refine LCg.ListComp_U (F₀ := by k_asm) (by rfl) (by decide) (by rfl) (by decide) (by rfl) ?_)))
  k_with "call type:enumerate" => (refine stop9 ?_)
  k_with "exec Assign cons ListComp" => ((k_here; k_dflt (refine wpAny_Assign_Name ?_ (by rfl))))
  k_with "CompSrc" => (refine stop9 ?_)
  k_with "CompEnd" => (refine stop9 ?_)
  k_with "FinE" => (((unfold LCg.FinE); intro Z1dXa Z1dXd Z1dXf Z1dXb Z1dXc Z1dXe; (try simp only [List.nil_append, List.cons_append] at Z1dXc); (try dsimp only)))
  k_with "FinA" => (((unfold LCg.FinA); intro Z1eXa Z1eXd Z1eXf Z1eXb Z1eXc Z1eXe; (try simp only [List.nil_append, List.cons_append] at Z1eXc); (try dsimp only)))
  k_with "m_k_ne" => (first | (refine neN ?_; (try dsimp only); omega) | exact off1_ne (by assumption) (by k_mem) | exact Ne.symm (off1_ne (by assumption) (by k_mem)))
  k_with "eval ListComp" => ((k_here; (with_reducible show wpAny _ _ (eval (PySem.Expr.ListComp _ [⟨PySem.Expr.Name _ _, _, [_], 0⟩] _ _) _) _ _ _); k_dflt (refine LCt.ListComp_T (F₀ := by k_asm) (by rfl) (by decide) (by rfl) (by decide) (by rfl) ?_)))
  k_with "CompSrcT" => (refine stop9 ?_)
  k_with "S_laps" => ((intro Z1iXf; obtain ⟨Z1iXa, Z1iXj, Z1iXi, Z1iXh, Z1iXc, Z1iXd, Z1iXe⟩ := Z1iXf; subst Z1iXh; (obtain ⟨Z1iXb, Z1iXg⟩ := news_add (by k_asm) (by k_asm) (by k_asm) Z1iXc Z1iXd)))
  k_with "S_il" => (((rename News _ _ _ _ => Z1jXa); exact ⟨_, News.get Z1jXa (by k_mem), rfl, _, rfl⟩))
  k_with "execs cons" => (((have _sf : StopH := by assumption); clear _sf; refine stop9 ?_))
  k_with "subscriptTail" => (((with_reducible show wpAny _ _ (subscriptTail _ (PySem.Expr.Slice (some _) (some _) none _) (Value.str _ _) _) _ _ _); (with_reducible rename Fr _ _ _ _ => Z1lXb); (with_reducible rename News _ _ _ _ => Z1lXd); (refine r_ring (s := ⟨_, _, _, _, _⟩) Z1lXb Z1lXd lit_ring (by omega) (by omega) (by omega) ?_); intro Z1lXh Z1lXn Z1lXm Z1lXe Z1lXf Z1lXg Z1lXi Z1lXk Z1lXl Z1lXj Z1lXa Z1lXc))
  trivial
theorem main1 {w : World} {p loose mean mg mb} {dp un : Nat} {gd : Option (List Code)} {L fa : Addr} {ccd : Value} {outer : List Env} {A₀ : Around} {base g : Heap} {m : PySem.Str → Option Value} {s : Shared} {Q : Flow → Shared → Prop} {E : Value → Shared → Prop}
    (o1 o2 o3 o4 o5 o6 o7 : Obj) (Dh : Addr) (a0 a1 a2 : Int) (t0 t1 t2 : Tok) (q0 : 0 ≤ a0) (q1 : 0 ≤ a1) (q2 : 0 ≤ a2) (d2 : o2.data = .cell (some (.ref Dh))) (lh : @LT.lt Nat _ (L + 1 + 1 + 1 + 1 + 1 + 1 + 1) Dh)
    (hB : Below A₀ base outer g) (hF : Fr g L s.heap m) (hX : (hd.heap_1 w.params).In g) (hT : Top p loose mean mg mb g) (hr : dp + 30 < recursionLimit) (hu : un + 16 * 30 < cLine) (hC : CodeHd base 111 107) (h7 : @LT.lt Nat _ 107 L) (hN : News g L s.heap [(Dh, listOf [.int a0 t0, .int a1 t1, .int a2 t2].toArray 3), (L + 1 + 1 + 1 + 1 + 1 + 1 + 1, o7), (L + 1 + 1 + 1 + 1 + 1 + 1, o6), (L + 1 + 1 + 1 + 1 + 1, o5), (L + 1 + 1 + 1 + 1, o4), (L + 1 + 1 + 1, o3), (L + 1 + 1, o2), (L + 1, o1), (107, tabObj #[])])
    (next : ∀ (h' : Heap) (tk' : Nat) (m' : PySem.Str → Option Value) (x y z : Nat) (ts : Tok), R8 x → R8 y → R8 z → x ≠ y → m' (PySem.Str.ofString "signs") = some (.str (S [x, y, z]) ts) → Fr g L h' m' → News g L h' [(Dh, listOf [.int a0 t0, .int a1 t1, .int a2 t2].toArray 3), (L + 1 + 1 + 1 + 1 + 1 + 1 + 1, o7), (L + 1 + 1 + 1 + 1 + 1 + 1, o6), (L + 1 + 1 + 1 + 1 + 1, o5), (L + 1 + 1 + 1 + 1, o4), (L + 1 + 1 + 1, o3), (L + 1 + 1, o2), (L + 1, o1), (107, tabObj #[])] →
      wpAny (model Challenge.pw_sc0056_01 w) (lawA dp un gd L fa ccd outer) (execs (lawBody.drop 2) (lawEnv L fa ccd)) Q E { s with heap := h', toks := tk' }) :
    wpAny (model Challenge.pw_sc0056_01 w) (lawA dp un gd L fa ccd outer) (execs (lawBody.drop 1) (lawEnv L fa ccd)) Q E s := by
  obtain ⟨hp, gns, dr, tk, os⟩ := s
  conv in (List.drop _ lawBody) => whnf
  (try clear sfl)
  walk1
  ((try clear sfl); have sfl : StopH := trivial)
  k_steps
  refine Stop9.go ?_
  rename Fr _ _ _ _ => F6
  rename News _ _ _ _ => N6
  rename R8 _ => hc
  revert hc
  rename R8 _ => hb
  revert hb
  rename R8 _ => ha
  intro hb hc
  rename _ ≠ _ => hab
  refine next _ _ _ _ _ _ _ ha hb hc hab rfl F6 N6
end
section
example : True := by
  k_with_none
  w_top off
  k_with "olt" => (first | assumption | ((fail_if_success refine oM ?_); refine oL ?_; k_extra "ole") | k_extra "olh")
  k_with "olh" => (refine oH (by assumption) (by k_extra "ole"))
  k_with "ole" => (first | exact Nat.le_refl _ | assumption | exact oB | ((first | refine oA ?_ | refine oA2 ?_ | refine oA3 ?_); k_extra "ocl") | (refine oS ?_; k_extra "ole") | (refine Nat.le_of_lt ?_; (first | assumption | k_extra "olh")) | exact oE)
  k_with "olt2" => (first | k_extra "oas" | ((fail_if_success refine oM ?_); refine oL ?_; k_extra "ole2") | k_extra "olh2")
  k_with "olh2" => (refine oH (by k_extra "oas") (by k_extra "ole2"))
  k_with "ole2" => (first | exact Nat.le_refl _ | k_extra "oas" | exact oB | ((first | refine oA ?_ | refine oA2 ?_ | refine oA3 ?_); k_extra "ocl") | (refine oS ?_; k_extra "ole2") | (refine Nat.le_of_lt ?_; (first | k_extra "oas" | k_extra "olh2")) | exact oE)
  k_with "opu" => (first | exact oB | exact Nat.le_refl _ | (refine oS ?_; k_extra "opu"))
  k_with "olt0" => (refine oL ?_; k_extra "opu")
  k_with "one" => (first | (refine Nat.ne_of_gt ?_; (fail_if_success refine oM ?_); k_extra "olt0") | (refine Nat.ne_of_lt ?_; (fail_if_success refine oM ?_); k_extra "olt0") | exact Ne.symm (by assumption) | (refine Nat.ne_of_gt ?_; (fail_if_success refine oM ?_); k_extra "oas") | (refine Nat.ne_of_lt ?_; (fail_if_success refine oM ?_); k_extra "oas") | (refine Nat.ne_of_gt ?_; (fail_if_success refine oM ?_); k_extra "odd") | (refine Nat.ne_of_lt ?_; (fail_if_success refine oM ?_); k_extra "odd") | (refine Nat.ne_of_gt ?_; (fail_if_success refine oM ?_); k_extra "olt") | (refine Nat.ne_of_lt ?_; (fail_if_success refine oM ?_); k_extra "olt") | (refine Nat.ne_of_gt ?_; (fail_if_success refine oM ?_); k_extra "olt2") | (refine Nat.ne_of_lt ?_; (fail_if_success refine oM ?_); k_extra "olt2") | decide)
  k_with "ol1" => (first | ((fail_if_success refine oM ?_); first | k_extra "oas" | k_extra "olt0" | k_extra "odd" | k_extra "olt" | k_extra "olt2") | k_extra "ocl" | exact oT0 | exact oT5)
  k_with "oe1" => (first | ((fail_if_success refine oN ?_); first | k_extra "oas" | k_extra "opu" | k_extra "ole" | k_extra "ole2" | exact oE (by k_extra "oas")) | k_extra "ocl" | k_extra "olit" | k_extra "oas")
  k_with "olit" => (first | exact oT4 | exact oP | exact oP2 | exact oT1 | exact oT2 | exact oT3 | exact oQ5 | exact oQ1 | exact oQ2 | exact oQ3 | exact oQ4 | exact oQ6 | exact oD)
  k_with "ocl" => (with_unfolding_all exact Nat.le_of_ble_eq_true rfl)
  k_with "oas" => (first | assumption | exact oa1 | exact ob1 | exact oa2 | exact ob2 | exact oa3 | exact ob3 | exact oa4 | exact ob4 | exact oa5 | exact ob5 | exact oa6 | exact ob6 | exact oa7 | exact ob7)
  k_with "odd" => (first | exact oa1 ob7 | exact oa2 ob7 | exact oa3 ob7 | exact oa4 ob7 | exact oa5 ob7 | exact oa6 ob7 | exact oa7 ob7 | exact oa1 (ob7 ob7) | exact oa2 (ob7 ob7) | exact oa3 (ob7 ob7) | exact oa4 (ob7 ob7) | exact oa5 (ob7 ob7) | exact oa6 (ob7 ob7) | exact oa7 (ob7 ob7) | exact ob1 ob7 | exact ob2 ob7 | exact ob3 ob7 | exact ob4 ob7 | exact ob5 ob7 | exact ob6 ob7 | exact ob7 ob7)
  k_with "oin" => (first | decide | exact oI1 | exact oI3 | exact oI2 (by k_extra "oas"))
  k_with "om" => (with_reducible first | (first | assumption | ((fail_if_success fail_if_success refine oXn ?_); k_extra "one") | ((fail_if_success fail_if_success refine oXl ?_); k_extra "ol1") | ((fail_if_success fail_if_success refine oXe ?_); k_extra "oe1") | k_extra "oin") | fail)
  k_with "S_fit" => (first | omega | ((simp only [S_len, List.length_append, List.length_cons, List.length_nil, List.length_take, List.length_drop, dots, PySem.sizeLine_eq]); omega))
  k_with "call builtin:len" => (((with_reducible show wpAny _ _ (call (Value.builtin "len") [Value.str (S _) _]) _ _ _); refine r_len (by walk_at "S_fit") ?_))
  k_with "call builtin:str.startswith" => (((with_reducible show wpAny _ _ (call (Value.builtin "str.startswith") [Value.str (S _) _, Value.str (S _) _]) _ _ _); refine r_starts ?_))
  k_with "call builtin:str.endswith" => (((with_reducible show wpAny _ _ (call (Value.builtin "str.endswith") [Value.str (S _) _, Value.str (S _) _]) _ _ _); refine r_ends ?_))
  k_with "truthy str" => (((with_reducible show wpAny _ _ (truthy (Value.str (S _) _)) _ _ _); refine r_truthy (by walk_at "S_fit") ?_))
  k_with "exec For Name Name cons nil" => ((k_here; (rename Fr _ _ _ _ => Z6Xa); (with_unfolding_all refine' For_invVF Z6Xa ?Q6Xa ?Q6Xb ?_; (case Q6Xa => exact rfl); (case Q6Xb => exact rfl); k_whole)))
  k_with "pyIter ref" => (((with_reducible show wpAny _ _ (pyIter (Value.ref _)) (fun it s₂ => LoopAtV _ _ _ _ _ _ _ _ _ it s₂) _ _); k_listUnr))
  k_with "S_enter" => ((refine' code_defG (news := []) ?Q8Xa ?Q8Xb ?Q8Xc ?Q8Xd ?Q8Xe ?Q8Xf ?Q8Xg ?Q8Xh ?Q8Xi ?Q8Xj ?Q8Xk ?Q8Xl ?Q8Xm ?_ ?Q8Xn ?Q8Xo ?Q8Xp ?Q8Xq; (case Q8Xf => exact rfl); (case Q8Xg => exact rfl); (case Q8Xh => assumption); (case Q8Xa => k_asm); (case Q8Xb => k_asm); (case Q8Xc => k_asm); (case Q8Xd => exact News.nil); (case Q8Xe => k_asm); (case Q8Xi => k_is); (case Q8Xj => k_is); (case Q8Xk => ktr_room); (case Q8Xl => exact BindsTo.of_eq rfl); (case Q8Xq => decide); (case Q8Xm => exact locs rfl); (case Q8Xn => exact rfl); (case Q8Xo => exact rfl); (case Q8Xp => exact rfl); k_whole; intro Z8Xh Z8Xd Z8Xi Z8Xc Z8Xb Z8Xe Z8Xa Z8Xg Z8Xf Z8Xj; (try dsimp only [List.map_nil] at Z8Xj); (try dsimp only); (try k_lift Z8Xa); (try k_fold)))
  k_with "S_look" => (first | exact rfl | assumption | exact (if_pos rfl) | (refine (if_neg (by decide)).trans ?_; walk_at "S_look"))
  k_with "eval Name" => ((k_here; k_dflt (refine' nameX_L ?QaXa ?QaXb ?_ ?QaXc ?QaXd; (case QaXa => k_asm); (case QaXc => rfl); (case QaXd => rfl); (case QaXb => walk_at "S_look"); k_whole)))
  k_with "S_lit" => (first | (with_reducible exact lit_dots) | (with_reducible rfl))
  k_with "S_nn" => (first | omega | ((simp only [List.length_append, List.length_cons, List.length_nil, List.length_take, List.length_drop, dots] at *); omega))
  k_with "binaryOp Add str str" => (((with_reducible show wpAny _ _ (binaryOp _ (Value.str _ _) (Value.str _ _)) _ _ _); k_dflt (refine r_add (by walk_at "S_lit") (by walk_at "S_lit") (by walk_at "S_fit") ?_); intro _ _))
  k_with "subscriptTail Name Slice str ref" => (((with_reducible show wpAny _ _ (subscriptTail _ (Expr.Slice none (some _) none _) (Value.str (S _) _) _) _ _ _); (with_reducible rename Fr _ _ _ _ => ZeXa); (with_reducible rename News _ _ _ _ => ZeXb); (refine r_sliceTo (s := ⟨_, _, _, _, _⟩) ZeXa ZeXb (by walk_at "S_nn") (by walk_at "S_fit") ?_); intro _ _ _ _ _))
  k_with "subscriptTail Name Slice str ref" => (((with_reducible show wpAny _ _ (subscriptTail _ (Expr.Slice (some _) none none _) (Value.str (S _) _) _) _ _ _); (with_reducible rename Fr _ _ _ _ => ZfXa); (with_reducible rename News _ _ _ _ => ZfXb); (refine r_sliceFrom (s := ⟨_, _, _, _, _⟩) ZfXa ZfXb (by walk_at "S_nn") (by walk_at "S_fit") ?_); intro _ _ _ _ _))
  k_with "exec For Name Call cons nil" => ((k_here; (rename Fr _ _ _ _ => ZgXa); (with_unfolding_all refine' For_invVF ZgXa ?QgXa ?QgXb ?_; (case QgXa => exact rfl); (case QgXb => exact rfl); k_whole)))
  k_with "S_use" => ((refine' pcon_use ?QhXa ?QhXb ?QhXc ?QhXd ?QhXe ?QhXf ?QhXg ?QhXh ?_; (case QhXb => k_asm); (case QhXc => k_asm); (case QhXd => k_asm); (case QhXe => k_asm); (case QhXa => walk_at "S_con"); (case QhXf => first | exact rfl | assumption); (case QhXg => ktr_room); (case QhXh => ktr_units)))
  k_with "call ref" => ((k_here; k_dflt (walk_at "S_use"); intro ZiXf ZiXd ZiXe ZiXb; (have ZiXa := Fr.keeps (by k_asm) ZiXb); (have ZiXc := News.grown (by k_asm) ZiXb); walk_at "S_back" <;> ((try dsimp only); (try k_fold))))
  k_with "pyIter ref" => (k_extra "S_loop")
  k_with "S_bool" => ((intro ZkXa; (rcases bool_or ZkXa with ⟨R8, R7⟩ | ⟨R8, R7⟩) <;> subst R7))
  k_with "call builtin:list.append" => ((k_here; (with_reducible show wpAny _ _ (call (Value.builtin _) [Value.ref _, _]) _ _ _); k_dflt (refine' append_K ?QlXa ?QlXb ?QlXc ?_ ?QlXd; (case QlXa => k_asm); (case QlXb => k_asm); (case QlXc => k_upd); (case QlXd => exact size_ok (k := 100000) (by omega) (by decide)); k_whole); intro ZlXc ZlXa ZlXb; (try k_sweep)))
  k_with "m_k_room" => (ktr_room)
  k_with "m_k_units" => (ktr_units)
  k_with "S_enterM" => ((refine' code_defG ?QoXa ?QoXb ?QoXc ?QoXd ?QoXe ?QoXf ?QoXg ?QoXh ?QoXi ?QoXj ?QoXk ?QoXl ?QoXm ?_ ?QoXn ?QoXo ?QoXp ?QoXq; (case QoXf => exact rfl); (case QoXg => exact rfl); (case QoXh => assumption); (case QoXa => k_asm); (case QoXb => k_asm); (case QoXc => k_asm); (case QoXd => k_asm); (case QoXe => k_asm); (case QoXi => k_is); (case QoXj => k_is); (case QoXk => ktr_room); (case QoXl => exact BindsTo.of_eq rfl); (case QoXq => decide); (case QoXm => exact locs rfl); (case QoXn => exact rfl); (case QoXo => exact rfl); (case QoXp => exact rfl); k_whole; intro ZoXh ZoXd ZoXi ZoXc ZoXb ZoXe ZoXa ZoXg ZoXf ZoXj; (try dsimp only [List.map_nil, List.map_cons] at ZoXj); (try dsimp only); (try k_lift ZoXa); (try k_fold)))
  k_with "callWith" => (((with_reducible show wpAny _ _ (callWith _ (Prod.fst _) (Prod.snd _) _ _) _ _ _); dsimp only))
  k_with "S_int" => (first | omega | decide | ((simp only [List.length_cons, List.length_nil, decide_eq_true_eq, decide_eq_false_iff_not, beq_iff_eq, beq_eq_false_iff_ne, ne_eq, Int.not_lt, Int.not_le] at *); omega))
  k_with "binaryOp FloorDiv int int" => (((with_reducible show wpAny _ _ (binaryOp _ (Value.int _ _) (Value.int _ _)) _ _ _); k_dflt (refine r_fdiv (by walk_at "S_int") (by walk_at "S_int") ?_); intro _ _))
  k_with "binaryOp Mod int int" => (((with_reducible show wpAny _ _ (binaryOp _ (Value.int _ _) (Value.int _ _)) _ _ _); k_dflt (refine r_fmod (by walk_at "S_int") ?_); intro _ _))
  k_with "S_item" => (((with_reducible show wpAny _ _ (subscriptTail _ _ (Value.str (S _) _) (Value.int _ _)) _ _ _); k_dflt (refine r_item (by walk_at "S_int") (by walk_at "S_int") (by walk_at "S_fit") ?_); intro _ _))
  k_with "subscriptTail Name BinOp str int" => (walk_at "S_item")
  k_with "subscriptTail Name Constant str int" => (walk_at "S_item")
  k_with "subscriptTail Name Name str int" => (walk_at "S_item")
  k_with "S_lit" => (first | (with_reducible exact lit_dots) | (with_reducible exact lit_empty) | (with_reducible exact lit34) | (with_reducible exact lit9234) | (with_reducible exact lit92) | (with_reducible exact lit10) | (with_reducible exact lit38) | (with_reducible exact lit59) | (with_reducible rfl))
  k_with "call builtin:str.replace" => (((with_reducible show wpAny _ _ (call (Value.builtin _) [Value.str (S _) _, Value.str _ _, Value.str _ _]) _ _ _); k_dflt (refine r_replace (by walk_at "S_lit") (by walk_at "S_lit") (by decide) (Nat.succ_ne_zero _) (Nat.succ_ne_zero _) (Nat.ne_of_lt (Nat.lt_succ_self _)) (by decide) (by walk_at "S_nn") ?_); intro _ _))
  k_with "call builtin:str.join" => ((k_here; (with_reducible show wpAny _ _ (call (Value.builtin _) [Value.str _ _, Value.ref _]) _ _ _); k_dflt (refine r_join (by walk_at "S_lit") (by walk_at "S_isl") (by walk_at "S_strs") (by walk_at "S_sum") ?_); intro _ _))
  k_with "S_isl" => (first | assumption | exact ⟨LCg.lst _, News.get (by k_asm) (by k_mem), rfl, _, rfl⟩ | is_list)
  k_with "S_strs" => (first | exact StrsAre.nil | assumption | (exact CharsAre.strs (by assumption)))
  k_with "binaryOp Mult str int" => (((with_reducible show wpAny _ _ (binaryOp _ (Value.str (S _) _) (Value.int _ _)) _ _ _); k_dflt (refine r_mul (by walk_at "S_int") (by walk_at "S_int") (by walk_at "S_nn") ?_); intro _ _))
  k_with "S_enterC" => ((refine' code_defCG ?Q13Xa ?Q13Xb ?Q13Xc ?Q13Xd ?Q13Xe ?Q13Xf ?Q13Xg ?Q13Xh ?Q13Xi ?Q13Xj ?Q13Xk ?Q13Xl ?Q13Xm ?Q13Xn ?_ ?Q13Xo ?Q13Xp ?Q13Xq; (case Q13Xf => exact rfl); (case Q13Xg => exact rfl); (case Q13Xh => assumption); (case Q13Xa => k_asm); (case Q13Xb => k_asm); (case Q13Xc => k_asm); (case Q13Xd => k_asm); (case Q13Xe => k_asm); (case Q13Xi => k_is); (case Q13Xj => k_is); (case Q13Xk => ktr_room); (case Q13Xl => exact BindsTo.of_eq rfl); (case Q13Xm => rfl); (case Q13Xn => decide); (case Q13Xo => exact rfl); (case Q13Xp => exact rfl); (case Q13Xq => exact rfl); k_whole; intro Z13Xj Z13Xd Z13Xk Z13Xo Z13Xi Z13Xc Z13Xb Z13Xe Z13Xh Z13Xa Z13Xg Z13Xf Z13Xm Z13Xl Z13Xn; (try dsimp only [List.map_nil, List.map_cons] at Z13Xl); (try k_lt Z13Xm); k_cells Z13Xh; (try simp only [List.cons_append, List.nil_append] at Z13Xe); (try dsimp only); (try k_lift Z13Xa); (try k_fold)))
  k_with "S_lcs" => ((k_here; k_dflt (refine ListComp_S (_F₀ := by k_asm) (by rfl) (by decide) (by rfl) (by decide) (by rfl) ?_)))
  k_with "S_lit" => (first | (with_reducible exact lit_dots) | (with_reducible exact lit_empty) | (with_reducible exact lit34) | (with_reducible exact lit9234) | (with_reducible exact lit92) | (with_reducible exact lit10) | (with_reducible exact lit38) | (with_reducible exact lit59) | (with_reducible exact lit60) | (with_reducible exact lit62) | (with_reducible exact lit13) | (with_reducible exact lit9) | (with_reducible exact litamp) | (with_reducible exact litlt) | (with_reducible exact litgt) | (with_reducible exact litquot) | (with_reducible rfl))
  k_with "S_sum" => (assumption)
  k_with "eval ListComp" => ((k_here; (with_reducible show wpAny _ _ (eval (PySem.Expr.ListComp _ [⟨PySem.Expr.Tuple _ _ _, _, [], 0⟩] _ _) _) _ _ _); k_dflt (refine ListComp_E (_F₀ := by k_asm) (by rfl) (by decide) (by rfl) (by decide) (by rfl) (by rfl) (by decide) ?_)))
  k_with "eval ListComp" => ((k_here; (with_reducible show wpAny _ _ (eval (PySem.Expr.ListComp _ [⟨PySem.Expr.Name _ _, _, [], 0⟩] _ _) _) _ _ _); k_dflt (refine LCg.ListComp_U (F₀ := by k_asm) (by rfl) (by decide) (by rfl) (by decide) (by rfl) ?_)))
  k_with "call type:enumerate" => (refine stop9 ?_)
  k_with "exec Assign cons ListComp" => ((k_here; k_dflt (refine wpAny_Assign_Name ?_ (by rfl))))
  k_with "CompSrc" => (refine stop9 ?_)
  k_with "CompEnd" => (refine stop9 ?_)
  k_with "FinE" => (((unfold LCg.FinE); intro Z1dXa Z1dXd Z1dXf Z1dXb Z1dXc Z1dXe; (try simp only [List.nil_append, List.cons_append] at Z1dXc); (try dsimp only)))
  k_with "FinA" => (((unfold LCg.FinA); intro Z1eXa Z1eXd Z1eXf Z1eXb Z1eXc Z1eXe; (try simp only [List.nil_append, List.cons_append] at Z1eXc); (try dsimp only)))
  k_with "m_k_ne" => (first | (refine neN ?_; (try dsimp only); omega) | exact off1_ne (by assumption) (by k_mem) | exact Ne.symm (off1_ne (by assumption) (by k_mem)))
  k_with "eval ListComp" => ((k_here; (with_reducible show wpAny _ _ (eval (PySem.Expr.ListComp _ [⟨PySem.Expr.Name _ _, _, [_], 0⟩] _ _) _) _ _ _); k_dflt (refine LCt.ListComp_T (F₀ := by k_asm) (by rfl) (by decide) (by rfl) (by decide) (by rfl) ?_)))
  k_with "CompSrcT" => (refine stop9 ?_)
  k_with "S_laps" => ((intro Z1iXf; obtain ⟨Z1iXa, Z1iXj, Z1iXi, Z1iXh, Z1iXc, Z1iXd, Z1iXe⟩ := Z1iXf; subst Z1iXh; (obtain ⟨Z1iXb, Z1iXg⟩ := news_add (by k_asm) (by k_asm) (by k_asm) Z1iXc Z1iXd)))
  k_with "S_il" => (((rename News _ _ _ _ => Z1jXa); exact ⟨_, News.get Z1jXa (by k_mem), rfl, _, rfl⟩))
  k_with "execs cons" => (((have _sf : StopH := by assumption); clear _sf; refine stop9 ?_))
  k_with "S_back" => (intro Z1lXb; obtain ⟨Z1lXc, Z1lXa⟩ := Z1lXb; subst Z1lXa)
  k_with "S_con" => (exact con_piece _ _ _ _ _ _ (by omega) (by omega))
  trivial
theorem main3 {w : World} {p loose mean mg mb} {dp un : Nat} {gd : Option (List Code)} {L fa : Addr} {ccd : Value} {outer : List Env} {A₀ : Around} {base g : Heap} {m : PySem.Str → Option Value} {s : Shared} {Q : Flow → Shared → Prop} {E : Value → Shared → Prop}
    (o1 o2 o3 o4 o5 o6 o7 : Obj) (Dh G : Addr) (a0 a1 a2 : Int) (t0 t1 t2 : Tok) (q0 : 0 ≤ a0) (q1 : 0 ≤ a1) (q2 : 0 ≤ a2) (fw : Nat) (wr : List Nat → List Nat) (mk f0 f1 f2 : List Nat) (tm u0 u1 u2 : Tok) (hwr : (fw, wr, mk, f0, f1, f2) ∈ wrT) (d2 : o2.data = .cell (some (.ref Dh))) (d3 : o3.data = .cell (some (.str (S mk) tm))) (d4 : o4.data = .cell (some (.ref G))) (lh : @LT.lt Nat _ (L + 1 + 1 + 1 + 1 + 1 + 1 + 1) Dh) (lg : @LT.lt Nat _ Dh G) (x y z : Nat) (ts : Tok) (rx : R8 x) (ry : R8 y) (rz : R8 z) (hxy : x ≠ y) (hsg : m (PySem.Str.ofString "signs") = some (.str (S [x, y, z]) ts)) (hwn : m (PySem.Str.ofString "writer") = some (.ref fw))
    (hB : Below A₀ base outer g) (hF : Fr g L s.heap m) (hX : (hd.heap_1 w.params).In g) (hT : Top p loose mean mg mb g) (hr : dp + 30 < recursionLimit) (hu : un + 16 * 30 < cLine) (hC : CodeHd base 111 107) (h7 : @LT.lt Nat _ 107 L) (hN : News g L s.heap [(G, tupObj [.str (S f0) u0, .str (S f1) u1, .str (S f2) u2]), (Dh, listOf [.int a0 t0, .int a1 t1, .int a2 t2].toArray 3), (L + 1 + 1 + 1 + 1 + 1 + 1 + 1, o7), (L + 1 + 1 + 1 + 1 + 1 + 1, o6), (L + 1 + 1 + 1 + 1 + 1, o5), (L + 1 + 1 + 1 + 1, o4), (L + 1 + 1 + 1, o3), (L + 1 + 1, o2), (L + 1, o1), (107, tabObj #[])])
    (next : ∀ (h' : Heap) (tk' : Nat) (m' : PySem.Str → Option Value) (Dp : Addr) (p0 p1 p2 : List Nat) (v0 v1 v2 : Tok), Pc x y z p0 → Pc x y z p1 → Pc x y z p2 → p0 ≠ [] → @LT.lt Nat _ G Dp →
      m' (PySem.Str.ofString "signs") = some (.str (S [x, y, z]) ts) → m' (PySem.Str.ofString "writer") = some (.ref fw) → m' (PySem.Str.ofString "pieces") = some (.ref Dp) → Fr g L h' m' → News g L h' [(Dp, listOf [.str (S p0) v0, .str (S p1) v1, .str (S p2) v2].toArray 0), (G, tupObj [.str (S f0) u0, .str (S f1) u1, .str (S f2) u2]), (Dh, listOf [.int a0 t0, .int a1 t1, .int a2 t2].toArray 3), (L + 1 + 1 + 1 + 1 + 1 + 1 + 1, o7), (L + 1 + 1 + 1 + 1 + 1 + 1, o6), (L + 1 + 1 + 1 + 1 + 1, o5), (L + 1 + 1 + 1 + 1, o4), (L + 1 + 1 + 1, o3), (L + 1 + 1, o2), (L + 1, o1), (107, tabObj #[])] →
      wpAny (model Challenge.pw_sc0056_01 w) (lawA dp un gd L fa ccd outer) (execs (lawBody.drop 4) (lawEnv L fa ccd)) Q E { s with heap := h', toks := tk' }) :
    wpAny (model Challenge.pw_sc0056_01 w) (lawA dp un gd L fa ccd outer) (execs (lawBody.drop 3) (lawEnv L fa ccd)) Q E s := by
  obtain ⟨hp, gns, dr, tk, os⟩ := s
  conv in (List.drop _ lawBody) => whnf
  (try clear sfl)
  walk1
  ((try clear sfl); have sfl : StopH := trivial)
  k_steps
  refine Stop9.go ?_
  rename Fr _ _ _ _ => F6
  rename News _ _ _ _ => N6
  refine' next _ _ _ _ _ _ _ _ _ _ (piece_pc x y z (f := 1 + a1 % 12) (by omega) (by omega)) (piece_pc x y z (f := a1 / 12 % 13) (by omega) (by omega)) (piece_pc x y z (f := a1 / 156 % 13) (by omega) (by omega)) (piece_ne x y z (f := 1 + a1 % 12) (by omega)) ?lt (by exact hsg) (by exact hwn) (by rfl) F6 (news_sub N6 ?sub)
  case sub => lcg_sub
  case lt => omega
end
section
local macro_rules | `(tactic| walk_at "zz0") => `(tactic| fail)
local macro_rules | `(tactic| walk_at "zz1") => `(tactic| fail)
local macro_rules | `(tactic| walk_at "zz2") => `(tactic| fail)
example : True := by
  k_with_none
  w_top off
  k_with "olt" => (first | assumption | ((fail_if_success refine oM ?_); refine oL ?_; k_extra "ole") | k_extra "olh")
  k_with "olh" => (refine oH (by assumption) (by k_extra "ole"))
  k_with "ole" => (first | exact Nat.le_refl _ | assumption | exact oB | ((first | refine oA ?_ | refine oA2 ?_ | refine oA3 ?_); k_extra "ocl") | (refine oS ?_; k_extra "ole") | (refine Nat.le_of_lt ?_; (first | assumption | k_extra "olh")) | exact oE)
  k_with "olt2" => (first | k_extra "oas" | ((fail_if_success refine oM ?_); refine oL ?_; k_extra "ole2") | k_extra "olh2")
  k_with "olh2" => (refine oH (by k_extra "oas") (by k_extra "ole2"))
  k_with "ole2" => (first | exact Nat.le_refl _ | k_extra "oas" | exact oB | ((first | refine oA ?_ | refine oA2 ?_ | refine oA3 ?_); k_extra "ocl") | (refine oS ?_; k_extra "ole2") | (refine Nat.le_of_lt ?_; (first | k_extra "oas" | k_extra "olh2")) | exact oE)
  k_with "opu" => (first | exact oB | exact Nat.le_refl _ | (refine oS ?_; k_extra "opu"))
  k_with "olt0" => (refine oL ?_; k_extra "opu")
  k_with "one" => (first | (refine Nat.ne_of_gt ?_; (fail_if_success refine oM ?_); k_extra "olt0") | (refine Nat.ne_of_lt ?_; (fail_if_success refine oM ?_); k_extra "olt0") | exact Ne.symm (by assumption) | (refine Nat.ne_of_gt ?_; (fail_if_success refine oM ?_); k_extra "oas") | (refine Nat.ne_of_lt ?_; (fail_if_success refine oM ?_); k_extra "oas") | (refine Nat.ne_of_gt ?_; (fail_if_success refine oM ?_); k_extra "odd") | (refine Nat.ne_of_lt ?_; (fail_if_success refine oM ?_); k_extra "odd") | (refine Nat.ne_of_gt ?_; (fail_if_success refine oM ?_); k_extra "olt") | (refine Nat.ne_of_lt ?_; (fail_if_success refine oM ?_); k_extra "olt") | (refine Nat.ne_of_gt ?_; (fail_if_success refine oM ?_); k_extra "olt2") | (refine Nat.ne_of_lt ?_; (fail_if_success refine oM ?_); k_extra "olt2") | decide)
  k_with "ol1" => (first | ((fail_if_success refine oM ?_); first | k_extra "oas" | k_extra "olt0" | k_extra "odd" | k_extra "olt" | k_extra "olt2") | k_extra "ocl" | exact oT0 | exact oT5)
  k_with "oe1" => (first | ((fail_if_success refine oN ?_); first | k_extra "oas" | k_extra "opu" | k_extra "ole" | k_extra "ole2" | exact oE (by k_extra "oas")) | k_extra "ocl" | k_extra "olit" | k_extra "oas")
  k_with "olit" => (first | exact oT4 | exact oP | exact oP2 | exact oT1 | exact oT2 | exact oT3 | exact oQ5 | exact oQ1 | exact oQ2 | exact oQ3 | exact oQ4 | exact oQ6 | exact oD)
  k_with "ocl" => (with_unfolding_all exact Nat.le_of_ble_eq_true rfl)
  k_with "oas" => (first | assumption | exact oa1 | exact ob1 | exact oa2 | exact ob2 | exact oa3 | exact ob3 | exact oa4 | exact ob4 | exact oa5 | exact ob5 | exact oa6 | exact ob6 | exact oa7 | exact ob7)
  k_with "odd" => (first | exact oa1 ob7 | exact oa2 ob7 | exact oa3 ob7 | exact oa4 ob7 | exact oa5 ob7 | exact oa6 ob7 | exact oa7 ob7 | exact oa1 (ob7 ob7) | exact oa2 (ob7 ob7) | exact oa3 (ob7 ob7) | exact oa4 (ob7 ob7) | exact oa5 (ob7 ob7) | exact oa6 (ob7 ob7) | exact oa7 (ob7 ob7) | exact ob1 ob7 | exact ob2 ob7 | exact ob3 ob7 | exact ob4 ob7 | exact ob5 ob7 | exact ob6 ob7 | exact ob7 ob7)
  k_with "oin" => (first | decide | exact oI1 | exact oI3 | exact oI2 (by k_extra "oas"))
  k_with "om" => (with_reducible first | (first | assumption | ((fail_if_success fail_if_success refine oXn ?_); k_extra "one") | ((fail_if_success fail_if_success refine oXl ?_); k_extra "ol1") | ((fail_if_success fail_if_success refine oXe ?_); k_extra "oe1") | k_extra "oin") | fail)
  k_with "S_fit" => (first | omega | ((simp only [S_len, List.length_append, List.length_cons, List.length_nil, List.length_take, List.length_drop, dots, PySem.sizeLine_eq]); omega))
  k_with "call builtin:len" => (((with_reducible show wpAny _ _ (call (Value.builtin "len") [Value.str (S _) _]) _ _ _); refine r_len (by walk_at "S_fit") ?_))
  k_with "call builtin:str.startswith" => (((with_reducible show wpAny _ _ (call (Value.builtin "str.startswith") [Value.str (S _) _, Value.str (S _) _]) _ _ _); refine r_starts ?_))
  k_with "call builtin:str.endswith" => (((with_reducible show wpAny _ _ (call (Value.builtin "str.endswith") [Value.str (S _) _, Value.str (S _) _]) _ _ _); refine r_ends ?_))
  k_with "truthy str" => (((with_reducible show wpAny _ _ (truthy (Value.str (S _) _)) _ _ _); refine r_truthy (by walk_at "S_fit") ?_))
  k_with "exec For Name Name cons nil" => ((k_here; (rename Fr _ _ _ _ => Z6Xa); (with_unfolding_all refine' For_invVF Z6Xa ?Q6Xa ?Q6Xb ?_; (case Q6Xa => exact rfl); (case Q6Xb => exact rfl); k_whole)))
  k_with "pyIter ref" => (((with_reducible show wpAny _ _ (pyIter (Value.ref _)) (fun it s₂ => LoopAtV _ _ _ _ _ _ _ _ _ it s₂) _ _); k_listUnr))
  k_with "S_enter" => ((refine' code_defG (news := []) ?Q8Xa ?Q8Xb ?Q8Xc ?Q8Xd ?Q8Xe ?Q8Xf ?Q8Xg ?Q8Xh ?Q8Xi ?Q8Xj ?Q8Xk ?Q8Xl ?Q8Xm ?_ ?Q8Xn ?Q8Xo ?Q8Xp ?Q8Xq; (case Q8Xf => exact rfl); (case Q8Xg => exact rfl); (case Q8Xh => assumption); (case Q8Xa => k_asm); (case Q8Xb => k_asm); (case Q8Xc => k_asm); (case Q8Xd => exact News.nil); (case Q8Xe => k_asm); (case Q8Xi => k_is); (case Q8Xj => k_is); (case Q8Xk => ktr_room); (case Q8Xl => exact BindsTo.of_eq rfl); (case Q8Xq => decide); (case Q8Xm => exact locs rfl); (case Q8Xn => exact rfl); (case Q8Xo => exact rfl); (case Q8Xp => exact rfl); k_whole; intro Z8Xh Z8Xd Z8Xi Z8Xc Z8Xb Z8Xe Z8Xa Z8Xg Z8Xf Z8Xj; (try dsimp only [List.map_nil] at Z8Xj); (try dsimp only); (try k_lift Z8Xa); (try k_fold)))
  k_with "S_look" => (first | exact rfl | assumption | exact (if_pos rfl) | (refine (if_neg (by decide)).trans ?_; walk_at "S_look"))
  k_with "eval Name" => ((k_here; k_dflt (refine' nameX_L ?QaXa ?QaXb ?_ ?QaXc ?QaXd; (case QaXa => k_asm); (case QaXc => rfl); (case QaXd => rfl); (case QaXb => walk_at "S_look"); k_whole)))
  k_with "S_lit" => (first | (with_reducible exact lit_dots) | (with_reducible rfl))
  k_with "S_nn" => (first | omega | ((simp only [List.length_append, List.length_cons, List.length_nil, List.length_take, List.length_drop, dots] at *); omega))
  k_with "binaryOp Add str str" => (((with_reducible show wpAny _ _ (binaryOp _ (Value.str _ _) (Value.str _ _)) _ _ _); k_dflt (refine r_add (by walk_at "S_lit") (by walk_at "S_lit") (by walk_at "S_fit") ?_); intro _ _))
  k_with "subscriptTail Name Slice str ref" => (((with_reducible show wpAny _ _ (subscriptTail _ (Expr.Slice none (some _) none _) (Value.str (S _) _) _) _ _ _); (with_reducible rename Fr _ _ _ _ => ZeXa); (with_reducible rename News _ _ _ _ => ZeXb); (refine r_sliceTo (s := ⟨_, _, _, _, _⟩) ZeXa ZeXb (by walk_at "S_nn") (by walk_at "S_fit") ?_); intro _ _ _ _ _))
  k_with "subscriptTail Name Slice str ref" => (((with_reducible show wpAny _ _ (subscriptTail _ (Expr.Slice (some _) none none _) (Value.str (S _) _) _) _ _ _); (with_reducible rename Fr _ _ _ _ => ZfXa); (with_reducible rename News _ _ _ _ => ZfXb); (refine r_sliceFrom (s := ⟨_, _, _, _, _⟩) ZfXa ZfXb (by walk_at "S_nn") (by walk_at "S_fit") ?_); intro _ _ _ _ _))
  k_with "exec For Name Call cons nil" => ((k_here; (rename Fr _ _ _ _ => ZgXa); (with_unfolding_all refine' For_invVF ZgXa ?QgXa ?QgXb ?_; (case QgXa => exact rfl); (case QgXb => exact rfl); k_whole)))
  k_with "S_use" => ((refine' pcon_use ?QhXa ?QhXb ?QhXc ?QhXd ?QhXe ?QhXf ?QhXg ?QhXh ?_; (case QhXb => k_asm); (case QhXc => k_asm); (case QhXd => k_asm); (case QhXe => k_asm); (case QhXa => walk_at "S_con"); (case QhXf => first | exact rfl | assumption); (case QhXg => ktr_room); (case QhXh => ktr_units)))
  k_with "call ref" => ((k_here; k_dflt (walk_at "S_use"); intro ZiXf ZiXd ZiXe ZiXb; (have ZiXa := Fr.keeps (by k_asm) ZiXb); (have ZiXc := News.grown (by k_asm) ZiXb); walk_at "S_back" <;> ((try dsimp only); (try k_fold))))
  k_with "pyIter ref" => (k_extra "S_loop")
  k_with "S_bool" => ((intro ZkXa; (rcases bool_or ZkXa with ⟨R8, R7⟩ | ⟨R8, R7⟩) <;> subst R7))
  k_with "call builtin:list.append" => ((k_here; (with_reducible show wpAny _ _ (call (Value.builtin _) [Value.ref _, _]) _ _ _); k_dflt (refine' append_K ?QlXa ?QlXb ?QlXc ?_ ?QlXd; (case QlXa => k_asm); (case QlXb => k_asm); (case QlXc => k_upd); (case QlXd => exact size_ok (k := 100000) (by omega) (by decide)); k_whole); intro ZlXc ZlXa ZlXb; (try k_sweep)))
  k_with "m_k_room" => (ktr_room)
  k_with "m_k_units" => (ktr_units)
  k_with "S_enterM" => ((refine' code_defG ?QoXa ?QoXb ?QoXc ?QoXd ?QoXe ?QoXf ?QoXg ?QoXh ?QoXi ?QoXj ?QoXk ?QoXl ?QoXm ?_ ?QoXn ?QoXo ?QoXp ?QoXq; (case QoXf => exact rfl); (case QoXg => exact rfl); (case QoXh => assumption); (case QoXa => k_asm); (case QoXb => k_asm); (case QoXc => k_asm); (case QoXd => k_asm); (case QoXe => k_asm); (case QoXi => k_is); (case QoXj => k_is); (case QoXk => ktr_room); (case QoXl => exact BindsTo.of_eq rfl); (case QoXq => decide); (case QoXm => exact locs rfl); (case QoXn => exact rfl); (case QoXo => exact rfl); (case QoXp => exact rfl); k_whole; intro ZoXh ZoXd ZoXi ZoXc ZoXb ZoXe ZoXa ZoXg ZoXf ZoXj; (try dsimp only [List.map_nil, List.map_cons] at ZoXj); (try dsimp only); (try k_lift ZoXa); (try k_fold)))
  k_with "callWith" => (((with_reducible show wpAny _ _ (callWith _ (Prod.fst _) (Prod.snd _) _ _) _ _ _); dsimp only))
  k_with "S_int" => (first | omega | decide | ((simp only [List.length_cons, List.length_nil, decide_eq_true_eq, decide_eq_false_iff_not, beq_iff_eq, beq_eq_false_iff_ne, ne_eq, Int.not_lt, Int.not_le] at *); omega))
  k_with "binaryOp FloorDiv int int" => (((with_reducible show wpAny _ _ (binaryOp _ (Value.int _ _) (Value.int _ _)) _ _ _); k_dflt (refine r_fdiv (by walk_at "S_int") (by walk_at "S_int") ?_); intro _ _))
  k_with "binaryOp Mod int int" => (((with_reducible show wpAny _ _ (binaryOp _ (Value.int _ _) (Value.int _ _)) _ _ _); k_dflt (refine r_fmod (by walk_at "S_int") ?_); intro _ _))
  k_with "S_item" => (((with_reducible show wpAny _ _ (subscriptTail _ _ (Value.str (S _) _) (Value.int _ _)) _ _ _); k_dflt (refine r_item (by walk_at "S_int") (by walk_at "S_int") (by walk_at "S_fit") ?_); intro _ _))
  k_with "subscriptTail Name BinOp str int" => (walk_at "S_item")
  k_with "subscriptTail Name Constant str int" => (walk_at "S_item")
  k_with "subscriptTail Name Name str int" => (walk_at "S_item")
  k_with "S_lit" => (first | (with_reducible exact lit_dots) | (with_reducible exact lit_empty) | (with_reducible exact lit34) | (with_reducible exact lit9234) | (with_reducible exact lit92) | (with_reducible exact lit10) | (with_reducible exact lit38) | (with_reducible exact lit59) | (with_reducible rfl))
  k_with "call builtin:str.replace" => (((with_reducible show wpAny _ _ (call (Value.builtin _) [Value.str (S _) _, Value.str _ _, Value.str _ _]) _ _ _); k_dflt (refine r_replace (by walk_at "S_lit") (by walk_at "S_lit") (by decide) (Nat.succ_ne_zero _) (Nat.succ_ne_zero _) (Nat.ne_of_lt (Nat.lt_succ_self _)) (by decide) (by walk_at "S_nn") ?_); intro _ _))
  k_with "call builtin:str.join" => ((k_here; (with_reducible show wpAny _ _ (call (Value.builtin _) [Value.str _ _, Value.ref _]) _ _ _); k_dflt (refine r_join (by walk_at "S_lit") (by walk_at "S_isl") (by walk_at "S_strs") (by walk_at "S_sum") ?_); intro _ _))
  k_with "S_isl" => (first | assumption | exact ⟨LCg.lst _, News.get (by k_asm) (by k_mem), rfl, _, rfl⟩ | is_list)
  k_with "S_strs" => (first | exact StrsAre.nil | assumption | (exact CharsAre.strs (by assumption)))
  k_with "binaryOp Mult str int" => (((with_reducible show wpAny _ _ (binaryOp _ (Value.str (S _) _) (Value.int _ _)) _ _ _); k_dflt (refine r_mul (by walk_at "S_int") (by walk_at "S_int") (by walk_at "S_nn") ?_); intro _ _))
  k_with "S_enterC" => ((refine' code_defCG ?Q13Xa ?Q13Xb ?Q13Xc ?Q13Xd ?Q13Xe ?Q13Xf ?Q13Xg ?Q13Xh ?Q13Xi ?Q13Xj ?Q13Xk ?Q13Xl ?Q13Xm ?Q13Xn ?_ ?Q13Xo ?Q13Xp ?Q13Xq; (case Q13Xf => exact rfl); (case Q13Xg => exact rfl); (case Q13Xh => assumption); (case Q13Xa => k_asm); (case Q13Xb => k_asm); (case Q13Xc => k_asm); (case Q13Xd => k_asm); (case Q13Xe => k_asm); (case Q13Xi => k_is); (case Q13Xj => k_is); (case Q13Xk => ktr_room); (case Q13Xl => exact BindsTo.of_eq rfl); (case Q13Xm => rfl); (case Q13Xn => decide); (case Q13Xo => exact rfl); (case Q13Xp => exact rfl); (case Q13Xq => exact rfl); k_whole; intro Z13Xj Z13Xd Z13Xk Z13Xo Z13Xi Z13Xc Z13Xb Z13Xe Z13Xh Z13Xa Z13Xg Z13Xf Z13Xm Z13Xl Z13Xn; (try dsimp only [List.map_nil, List.map_cons] at Z13Xl); (try k_lt Z13Xm); k_cells Z13Xh; (try simp only [List.cons_append, List.nil_append] at Z13Xe); (try dsimp only); (try k_lift Z13Xa); (try k_fold)))
  k_with "S_lcs" => ((k_here; k_dflt (refine ListComp_S (_F₀ := by k_asm) (by rfl) (by decide) (by rfl) (by decide) (by rfl) ?_)))
  k_with "S_lit" => (first | (with_reducible exact lit_dots) | (with_reducible exact lit_empty) | (with_reducible exact lit34) | (with_reducible exact lit9234) | (with_reducible exact lit92) | (with_reducible exact lit10) | (with_reducible exact lit38) | (with_reducible exact lit59) | (with_reducible exact lit60) | (with_reducible exact lit62) | (with_reducible exact lit13) | (with_reducible exact lit9) | (with_reducible exact litamp) | (with_reducible exact litlt) | (with_reducible exact litgt) | (with_reducible exact litquot) | (with_reducible rfl))
  k_with "S_sum" => (assumption)
  k_with "eval ListComp" => ((k_here; (with_reducible show wpAny _ _ (eval (PySem.Expr.ListComp _ [⟨PySem.Expr.Tuple _ _ _, _, [], 0⟩] _ _) _) _ _ _); k_dflt (refine ListComp_E (_F₀ := by k_asm) (by rfl) (by decide) (by rfl) (by decide) (by rfl) (by rfl) (by decide) ?_)))
  k_with "eval ListComp" => ((k_here; (with_reducible show wpAny _ _ (eval (PySem.Expr.ListComp _ [⟨PySem.Expr.Name _ _, _, [], 0⟩] _ _) _) _ _ _); k_dflt (refine LCg.ListComp_U (F₀ := by k_asm) (by rfl) (by decide) (by rfl) (by decide) (by rfl) ?_)))
  k_with "call type:enumerate" => (refine stop9 ?_)
  k_with "exec Assign cons ListComp" => ((k_here; k_dflt (refine wpAny_Assign_Name ?_ (by rfl))))
  k_with "CompSrc" => (refine stop9 ?_)
  k_with "CompEnd" => (refine stop9 ?_)
  k_with "FinE" => (((unfold LCg.FinE); intro Z1dXa Z1dXd Z1dXf Z1dXb Z1dXc Z1dXe; (try simp only [List.nil_append, List.cons_append] at Z1dXc); (try dsimp only)))
  k_with "FinA" => (((unfold LCg.FinA); intro Z1eXa Z1eXd Z1eXf Z1eXb Z1eXc Z1eXe; (try simp only [List.nil_append, List.cons_append] at Z1eXc); (try dsimp only)))
  k_with "m_k_ne" => (first | (refine neN ?_; (try dsimp only); omega) | exact off1_ne (by assumption) (by k_mem) | exact Ne.symm (off1_ne (by assumption) (by k_mem)))
  k_with "eval ListComp" => ((k_here; (with_reducible show wpAny _ _ (eval (PySem.Expr.ListComp _ [⟨PySem.Expr.Name _ _, _, [_], 0⟩] _ _) _) _ _ _); k_dflt (refine LCt.ListComp_T (F₀ := by k_asm) (by rfl) (by decide) (by rfl) (by decide) (by rfl) ?_)))
  k_with "CompSrcT" => (refine stop9 ?_)
  k_with "S_laps" => ((intro Z1iXf; obtain ⟨Z1iXa, Z1iXj, Z1iXi, Z1iXh, Z1iXc, Z1iXd, Z1iXe⟩ := Z1iXf; subst Z1iXh; (obtain ⟨Z1iXb, Z1iXg⟩ := news_add (by k_asm) (by k_asm) (by k_asm) Z1iXc Z1iXd)))
  k_with "S_il" => (((rename News _ _ _ _ => Z1jXa); exact ⟨_, News.get Z1jXa (by k_mem), rfl, _, rfl⟩))
  k_with "execs cons" => (((have _sf : StopH := by assumption); clear _sf; refine stop9 ?_))
  k_with "S_back" => (intro Z1lXb; obtain ⟨Z1lXc, Z1lXa⟩ := Z1lXb; subst Z1lXa)
  k_with "S_con" => (exact con_spelled _ _ _ _ (by assumption))
  k_with "S_fit" => (exact fit_sp (by assumption))
  trivial
theorem main4 {w : World} {p loose mean mg mb} {dp un : Nat} {gd : Option (List Code)} {L fa : Addr} {ccd : Value} {outer : List Env} {A₀ : Around} {base g : Heap} {m : PySem.Str → Option Value} {s : Shared} {Q : Flow → Shared → Prop} {E : Value → Shared → Prop}
    (o1 o2 o3 o4 o5 o6 o7 : Obj) (Dh G : Addr) (a0 a1 a2 : Int) (t0 t1 t2 : Tok) (q0 : 0 ≤ a0) (q1 : 0 ≤ a1) (q2 : 0 ≤ a2) (fw : Nat) (wr : List Nat → List Nat) (mk f0 f1 f2 : List Nat) (tm u0 u1 u2 : Tok) (hwr : (fw, wr, mk, f0, f1, f2) ∈ wrT) (d2 : o2.data = .cell (some (.ref Dh))) (d3 : o3.data = .cell (some (.str (S mk) tm))) (d4 : o4.data = .cell (some (.ref G))) (lh : @LT.lt Nat _ (L + 1 + 1 + 1 + 1 + 1 + 1 + 1) Dh) (lg : @LT.lt Nat _ Dh G) (x y z : Nat) (ts : Tok) (rx : R8 x) (ry : R8 y) (rz : R8 z) (hxy : x ≠ y) (hsg : m (PySem.Str.ofString "signs") = some (.str (S [x, y, z]) ts)) (hwn : m (PySem.Str.ofString "writer") = some (.ref fw)) (Dp : Addr) (p0 p1 p2 : List Nat) (v0 v1 v2 : Tok) (pc0 : Pc x y z p0) (pc1 : Pc x y z p1) (pc2 : Pc x y z p2) (pn0 : p0 ≠ []) (lp : @LT.lt Nat _ G Dp) (hpn : m (PySem.Str.ofString "pieces") = some (.ref Dp))
    (hB : Below A₀ base outer g) (hF : Fr g L s.heap m) (hX : (hd.heap_1 w.params).In g) (hT : Top p loose mean mg mb g) (hr : dp + 30 < recursionLimit) (hu : un + 16 * 30 < cLine) (hC : CodeHd base 111 107) (h7 : @LT.lt Nat _ 107 L) (hN : News g L s.heap [(Dp, listOf [.str (S p0) v0, .str (S p1) v1, .str (S p2) v2].toArray 0), (G, tupObj [.str (S f0) u0, .str (S f1) u1, .str (S f2) u2]), (Dh, listOf [.int a0 t0, .int a1 t1, .int a2 t2].toArray 3), (L + 1 + 1 + 1 + 1 + 1 + 1 + 1, o7), (L + 1 + 1 + 1 + 1 + 1 + 1, o6), (L + 1 + 1 + 1 + 1 + 1, o5), (L + 1 + 1 + 1 + 1, o4), (L + 1 + 1 + 1, o3), (L + 1 + 1, o2), (L + 1, o1), (107, tabObj #[])])
    (next : ∀ (h' : Heap) (tk' : Nat) (m' : PySem.Str → Option Value) (w0 w1 w2 : Int) (tp : Tok), 
      m' (PySem.Str.ofString "signs") = some (.str (S [x, y, z]) ts) → m' (PySem.Str.ofString "writer") = some (.ref fw) → m' (PySem.Str.ofString "pieces") = some (.ref Dp) → m' (PySem.Str.ofString "page") = some (.str (S (pageL p0 p1 p2 w0 w1 w2)) tp) → Fr g L h' m' → News g L h' [(Dp, listOf [.str (S p0) v0, .str (S p1) v1, .str (S p2) v2].toArray 0), (G, tupObj [.str (S f0) u0, .str (S f1) u1, .str (S f2) u2]), (Dh, listOf [.int a0 t0, .int a1 t1, .int a2 t2].toArray 3), (L + 1 + 1 + 1 + 1 + 1 + 1 + 1, o7), (L + 1 + 1 + 1 + 1 + 1 + 1, o6), (L + 1 + 1 + 1 + 1 + 1, o5), (L + 1 + 1 + 1 + 1, o4), (L + 1 + 1 + 1, o3), (L + 1 + 1, o2), (L + 1, o1), (107, tabObj #[])] →
      wpAny (model Challenge.pw_sc0056_01 w) (lawA dp un gd L fa ccd outer) (execs (lawBody.drop 5) (lawEnv L fa ccd)) Q E { s with heap := h', toks := tk' }) :
    wpAny (model Challenge.pw_sc0056_01 w) (lawA dp un gd L fa ccd outer) (execs (lawBody.drop 4) (lawEnv L fa ccd)) Q E s := by
  have hl0 := pc0.2
  have hl1 := pc1.2
  have hl2 := pc2.2
  obtain ⟨hp, gns, dr, tk, os⟩ := s
  conv in (List.drop _ lawBody) => whnf
  (try clear sfl)
  walk1
  ((try clear sfl); have sfl : StopH := trivial)
  k_steps
  refine Stop9.go ?_
  rename Fr _ _ _ _ => F1
  rename News _ _ _ _ => N1
  k_dflt (refine srcE_list rfl F1 N1 (.head _) (Nat.le_of_ble_eq_true rfl) fun h' => ?_)
  refine restE_ind (J := fun i ys news => (∃ ws : List Int, ws.length = i ∧ StrsAre ys ((List.range i).map fun k => spelledL ([p0, p1, p2].getD k []) (ws.getD k 0) ++ [10])) ∧ news = _) ?step ?fin _ 0 _ _ (Nat.zero_add _) ⟨⟨[], rfl, .nil⟩, rfl⟩
  case step =>
    clear N1 F1
    rintro i v t ys news e oe it oi C oC D m2 h2 tk2 E9 hi hP ⟨⟨wl, hw, hJ⟩, rfl⟩ hC2 hx hx2 F2 N2 off off1 ne
    have hi' : i < 3 := hi
    have hJ3 : ∀ (f : Int) (px : List Nat) t, [p0, p1, p2].getD i [] = px → StrsAre (ys ++ [Value.str (S (spelledL px f ++ [10])) t]) ((List.range (i + 1)).map fun k => spelledL ([p0, p1, p2].getD k []) ((wl ++ [f]).getD k 0) ++ [10]) := by
      rintro f px t rfl
      rw [List.range_succ, List.map_append]
      refine StrsAre.append ?_ ?_
      · have : ((List.range i).map fun k => spelledL ([p0, p1, p2].getD k []) ((wl ++ [f]).getD k 0) ++ [10]) = (List.range i).map fun k => spelledL ([p0, p1, p2].getD k []) (wl.getD k 0) ++ [10] := by
          refine List.map_congr_left fun k hk => ?_
          have : k < wl.length := by rw [hw]; exact List.mem_range.mp hk
          simp only [List.getD_eq_getElem?_getD]
          rw [List.getElem?_append_left this]
        rw [this]; exact hJ
      · have : (wl ++ [f]).getD i 0 = f := by
          simp [List.getD_eq_getElem?_getD, ← hw]
        simp only [List.map_cons, List.map_nil, this]
        exact .cons _ _ .nil
    have hI : ∃ px vx, v = Value.str (S px) vx ∧ [p0, p1, p2].getD i [] = px ∧ px.length ≤ 2 := by
      rcases i with _ | _ | _ | i
      · cases hP; exact ⟨_, _, rfl, rfl, hl0⟩
      · cases hP; exact ⟨_, _, rfl, rfl, hl1⟩
      · cases hP; exact ⟨_, _, rfl, rfl, hl2⟩
      · omega
    obtain ⟨px, vx, rfl, hpx, hlx⟩ := hI
    have hsl := fun f => spelled_len f hlx
    dsimp only
    k_steps
    refine Stop9.go ?_
    rename Fr _ _ _ _ => F5
    rename News _ _ _ _ => N5
    refine' CompEnd.intro F5 N5 ((it, oi) :: _) ?sub off (keyIn_mk (.head _) off1) ?st
    case sub => lcg_sub
    case st => exact ⟨⟨wl ++ [_], by simp [hw], hJ3 _ px _ hpx⟩, rfl⟩
  case fin =>
    rintro ys news ⟨⟨wl, hw, hJ⟩, rfl⟩
    clear N1 F1
    intro D5 h5 tk5 F5 N5 o5 lt5
    k_lt lt5
    dsimp only
    have hsum : (((List.range 3).map fun k => spelledL ([p0, p1, p2].getD k []) (wl.getD k 0) ++ [10]).map (·.length)).sum + ((List.range 3).map fun k => spelledL ([p0, p1, p2].getD k []) (wl.getD k 0) ++ [10]).length ≤ 1000000 := by
      have e0 := spelled_len (wl.getD 0 0) hl0
      have e1 := spelled_len (wl.getD 1 0) hl1
      have e2 := spelled_len (wl.getD 2 0) hl2
      simp only [List.getD_eq_getElem?_getD] at e0 e1 e2
      simp [List.range_succ]
      omega
    replace hJ : StrsAre ys ((List.range 3).map fun k => spelledL ([p0, p1, p2].getD k []) (wl.getD k 0) ++ [10]) := hJ
    k_steps
    refine Stop9.go ?_
    rename Fr _ _ _ _ => F6
    rename News _ _ _ _ => N6
    refine' next _ _ _ (wl.getD 0 0) (wl.getD 1 0) (wl.getD 2 0) _ (by exact hsg) (by exact hwn) (by exact hpn) ?pg F6 (news_sub N6 ?sub2)
    case sub2 => lcg_sub
    case pg =>
      have hpg : ((List.range 3).map fun k => spelledL ([p0, p1, p2].getD k []) (wl.getD k 0) ++ [10]).flatten = pageL p0 p1 p2 (wl.getD 0 0) (wl.getD 1 0) (wl.getD 2 0) := by
        simp [List.range_succ, pageL]
      rw [← hpg]
      rfl
end
section
example : True := by
  k_with_none
  w_top off
  k_with "olt" => (first | assumption | ((fail_if_success refine oM ?_); refine oL ?_; k_extra "ole") | k_extra "olh")
  k_with "olh" => (refine oH (by assumption) (by k_extra "ole"))
  k_with "ole" => (first | exact Nat.le_refl _ | assumption | exact oB | ((first | refine oA ?_ | refine oA2 ?_ | refine oA3 ?_); k_extra "ocl") | (refine oS ?_; k_extra "ole") | (refine Nat.le_of_lt ?_; (first | assumption | k_extra "olh")) | exact oE)
  k_with "olt2" => (first | k_extra "oas" | ((fail_if_success refine oM ?_); refine oL ?_; k_extra "ole2") | k_extra "olh2")
  k_with "olh2" => (refine oH (by k_extra "oas") (by k_extra "ole2"))
  k_with "ole2" => (first | exact Nat.le_refl _ | k_extra "oas" | exact oB | ((first | refine oA ?_ | refine oA2 ?_ | refine oA3 ?_); k_extra "ocl") | (refine oS ?_; k_extra "ole2") | (refine Nat.le_of_lt ?_; (first | k_extra "oas" | k_extra "olh2")) | exact oE)
  k_with "opu" => (first | exact oB | exact Nat.le_refl _ | (refine oS ?_; k_extra "opu"))
  k_with "olt0" => (refine oL ?_; k_extra "opu")
  k_with "one" => (first | (refine Nat.ne_of_gt ?_; (fail_if_success refine oM ?_); k_extra "olt0") | (refine Nat.ne_of_lt ?_; (fail_if_success refine oM ?_); k_extra "olt0") | exact Ne.symm (by assumption) | (refine Nat.ne_of_gt ?_; (fail_if_success refine oM ?_); k_extra "oas") | (refine Nat.ne_of_lt ?_; (fail_if_success refine oM ?_); k_extra "oas") | (refine Nat.ne_of_gt ?_; (fail_if_success refine oM ?_); k_extra "odd") | (refine Nat.ne_of_lt ?_; (fail_if_success refine oM ?_); k_extra "odd") | (refine Nat.ne_of_gt ?_; (fail_if_success refine oM ?_); k_extra "olt") | (refine Nat.ne_of_lt ?_; (fail_if_success refine oM ?_); k_extra "olt") | (refine Nat.ne_of_gt ?_; (fail_if_success refine oM ?_); k_extra "olt2") | (refine Nat.ne_of_lt ?_; (fail_if_success refine oM ?_); k_extra "olt2") | decide)
  k_with "ol1" => (first | ((fail_if_success refine oM ?_); first | k_extra "oas" | k_extra "olt0" | k_extra "odd" | k_extra "olt" | k_extra "olt2") | k_extra "ocl" | exact oT0 | exact oT5)
  k_with "oe1" => (first | ((fail_if_success refine oN ?_); first | k_extra "oas" | k_extra "opu" | k_extra "ole" | k_extra "ole2" | exact oE (by k_extra "oas")) | k_extra "ocl" | k_extra "olit" | k_extra "oas")
  k_with "olit" => (first | exact oT4 | exact oP | exact oP2 | exact oT1 | exact oT2 | exact oT3 | exact oQ5 | exact oQ1 | exact oQ2 | exact oQ3 | exact oQ4 | exact oQ6 | exact oD)
  k_with "ocl" => (with_unfolding_all exact Nat.le_of_ble_eq_true rfl)
  k_with "oas" => (first | assumption | exact oa1 | exact ob1 | exact oa2 | exact ob2 | exact oa3 | exact ob3 | exact oa4 | exact ob4 | exact oa5 | exact ob5 | exact oa6 | exact ob6 | exact oa7 | exact ob7)
  k_with "odd" => (first | exact oa1 ob7 | exact oa2 ob7 | exact oa3 ob7 | exact oa4 ob7 | exact oa5 ob7 | exact oa6 ob7 | exact oa7 ob7 | exact oa1 (ob7 ob7) | exact oa2 (ob7 ob7) | exact oa3 (ob7 ob7) | exact oa4 (ob7 ob7) | exact oa5 (ob7 ob7) | exact oa6 (ob7 ob7) | exact oa7 (ob7 ob7) | exact ob1 ob7 | exact ob2 ob7 | exact ob3 ob7 | exact ob4 ob7 | exact ob5 ob7 | exact ob6 ob7 | exact ob7 ob7)
  k_with "oin" => (first | decide | exact oI1 | exact oI3 | exact oI2 (by k_extra "oas"))
  k_with "om" => (with_reducible first | (first | assumption | ((fail_if_success fail_if_success refine oXn ?_); k_extra "one") | ((fail_if_success fail_if_success refine oXl ?_); k_extra "ol1") | ((fail_if_success fail_if_success refine oXe ?_); k_extra "oe1") | k_extra "oin") | fail)
  k_with "S_fit" => (first | omega | ((simp only [S_len, List.length_append, List.length_cons, List.length_nil, List.length_take, List.length_drop, dots, PySem.sizeLine_eq]); omega))
  k_with "call builtin:len" => (((with_reducible show wpAny _ _ (call (Value.builtin "len") [Value.str (S _) _]) _ _ _); refine r_len (by walk_at "S_fit") ?_))
  k_with "call builtin:str.startswith" => (((with_reducible show wpAny _ _ (call (Value.builtin "str.startswith") [Value.str (S _) _, Value.str (S _) _]) _ _ _); refine r_starts ?_))
  k_with "call builtin:str.endswith" => (((with_reducible show wpAny _ _ (call (Value.builtin "str.endswith") [Value.str (S _) _, Value.str (S _) _]) _ _ _); refine r_ends ?_))
  k_with "truthy str" => (((with_reducible show wpAny _ _ (truthy (Value.str (S _) _)) _ _ _); refine r_truthy (by walk_at "S_fit") ?_))
  k_with "exec For Name Name cons nil" => ((k_here; (rename Fr _ _ _ _ => Z6Xa); (with_unfolding_all refine' For_invVF Z6Xa ?Q6Xa ?Q6Xb ?_; (case Q6Xa => exact rfl); (case Q6Xb => exact rfl); k_whole)))
  k_with "pyIter ref" => (((with_reducible show wpAny _ _ (pyIter (Value.ref _)) (fun it s₂ => LoopAtV _ _ _ _ _ _ _ _ _ it s₂) _ _); k_listUnr))
  k_with "S_enter" => ((refine' code_defG (news := []) ?Q8Xa ?Q8Xb ?Q8Xc ?Q8Xd ?Q8Xe ?Q8Xf ?Q8Xg ?Q8Xh ?Q8Xi ?Q8Xj ?Q8Xk ?Q8Xl ?Q8Xm ?_ ?Q8Xn ?Q8Xo ?Q8Xp ?Q8Xq; (case Q8Xf => exact rfl); (case Q8Xg => exact rfl); (case Q8Xh => assumption); (case Q8Xa => k_asm); (case Q8Xb => k_asm); (case Q8Xc => k_asm); (case Q8Xd => exact News.nil); (case Q8Xe => k_asm); (case Q8Xi => k_is); (case Q8Xj => k_is); (case Q8Xk => ktr_room); (case Q8Xl => exact BindsTo.of_eq rfl); (case Q8Xq => decide); (case Q8Xm => exact locs rfl); (case Q8Xn => exact rfl); (case Q8Xo => exact rfl); (case Q8Xp => exact rfl); k_whole; intro Z8Xh Z8Xd Z8Xi Z8Xc Z8Xb Z8Xe Z8Xa Z8Xg Z8Xf Z8Xj; (try dsimp only [List.map_nil] at Z8Xj); (try dsimp only); (try k_lift Z8Xa); (try k_fold)))
  k_with "S_look" => (first | exact rfl | assumption | exact (if_pos rfl) | (refine (if_neg (by decide)).trans ?_; walk_at "S_look"))
  k_with "eval Name" => ((k_here; k_dflt (refine' nameX_L ?QaXa ?QaXb ?_ ?QaXc ?QaXd; (case QaXa => k_asm); (case QaXc => rfl); (case QaXd => rfl); (case QaXb => walk_at "S_look"); k_whole)))
  k_with "S_lit" => (first | (with_reducible exact lit_dots) | (with_reducible rfl))
  k_with "S_nn" => (first | omega | ((simp only [List.length_append, List.length_cons, List.length_nil, List.length_take, List.length_drop, dots] at *); omega))
  k_with "binaryOp Add str str" => (((with_reducible show wpAny _ _ (binaryOp _ (Value.str _ _) (Value.str _ _)) _ _ _); k_dflt (refine r_add (by walk_at "S_lit") (by walk_at "S_lit") (by walk_at "S_fit") ?_); intro _ _))
  k_with "subscriptTail Name Slice str ref" => (((with_reducible show wpAny _ _ (subscriptTail _ (Expr.Slice none (some _) none _) (Value.str (S _) _) _) _ _ _); (with_reducible rename Fr _ _ _ _ => ZeXa); (with_reducible rename News _ _ _ _ => ZeXb); (refine r_sliceTo (s := ⟨_, _, _, _, _⟩) ZeXa ZeXb (by walk_at "S_nn") (by walk_at "S_fit") ?_); intro _ _ _ _ _))
  k_with "subscriptTail Name Slice str ref" => (((with_reducible show wpAny _ _ (subscriptTail _ (Expr.Slice (some _) none none _) (Value.str (S _) _) _) _ _ _); (with_reducible rename Fr _ _ _ _ => ZfXa); (with_reducible rename News _ _ _ _ => ZfXb); (refine r_sliceFrom (s := ⟨_, _, _, _, _⟩) ZfXa ZfXb (by walk_at "S_nn") (by walk_at "S_fit") ?_); intro _ _ _ _ _))
  k_with "exec For Name Call cons nil" => ((k_here; (rename Fr _ _ _ _ => ZgXa); (with_unfolding_all refine' For_invVF ZgXa ?QgXa ?QgXb ?_; (case QgXa => exact rfl); (case QgXb => exact rfl); k_whole)))
  k_with "S_use" => ((refine' pcon_use ?QhXa ?QhXb ?QhXc ?QhXd ?QhXe ?QhXf ?QhXg ?QhXh ?_; (case QhXb => k_asm); (case QhXc => k_asm); (case QhXd => k_asm); (case QhXe => k_asm); (case QhXa => walk_at "S_con"); (case QhXf => first | exact rfl | assumption); (case QhXg => ktr_room); (case QhXh => ktr_units)))
  k_with "call ref" => ((k_here; k_dflt (walk_at "S_use"); intro ZiXf ZiXd ZiXe ZiXb; (have ZiXa := Fr.keeps (by k_asm) ZiXb); (have ZiXc := News.grown (by k_asm) ZiXb); walk_at "S_back" <;> ((try dsimp only); (try k_fold))))
  k_with "pyIter ref" => (k_extra "S_loop")
  k_with "S_bool" => ((intro ZkXa; (rcases bool_or ZkXa with ⟨R8, R7⟩ | ⟨R8, R7⟩) <;> subst R7))
  k_with "call builtin:list.append" => ((k_here; (with_reducible show wpAny _ _ (call (Value.builtin _) [Value.ref _, _]) _ _ _); k_dflt (refine' append_K ?QlXa ?QlXb ?QlXc ?_ ?QlXd; (case QlXa => k_asm); (case QlXb => k_asm); (case QlXc => k_upd); (case QlXd => exact size_ok (k := 100000) (by omega) (by decide)); k_whole); intro ZlXc ZlXa ZlXb; (try k_sweep)))
  k_with "m_k_room" => (ktr_room)
  k_with "m_k_units" => (ktr_units)
  k_with "S_enterM" => ((refine' code_defG ?QoXa ?QoXb ?QoXc ?QoXd ?QoXe ?QoXf ?QoXg ?QoXh ?QoXi ?QoXj ?QoXk ?QoXl ?QoXm ?_ ?QoXn ?QoXo ?QoXp ?QoXq; (case QoXf => exact rfl); (case QoXg => exact rfl); (case QoXh => assumption); (case QoXa => k_asm); (case QoXb => k_asm); (case QoXc => k_asm); (case QoXd => k_asm); (case QoXe => k_asm); (case QoXi => k_is); (case QoXj => k_is); (case QoXk => ktr_room); (case QoXl => exact BindsTo.of_eq rfl); (case QoXq => decide); (case QoXm => exact locs rfl); (case QoXn => exact rfl); (case QoXo => exact rfl); (case QoXp => exact rfl); k_whole; intro ZoXh ZoXd ZoXi ZoXc ZoXb ZoXe ZoXa ZoXg ZoXf ZoXj; (try dsimp only [List.map_nil, List.map_cons] at ZoXj); (try dsimp only); (try k_lift ZoXa); (try k_fold)))
  k_with "callWith" => (((with_reducible show wpAny _ _ (callWith _ (Prod.fst _) (Prod.snd _) _ _) _ _ _); dsimp only))
  k_with "S_int" => (first | omega | decide | ((simp only [List.length_cons, List.length_nil, decide_eq_true_eq, decide_eq_false_iff_not, beq_iff_eq, beq_eq_false_iff_ne, ne_eq, Int.not_lt, Int.not_le] at *); omega))
  k_with "binaryOp FloorDiv int int" => (((with_reducible show wpAny _ _ (binaryOp _ (Value.int _ _) (Value.int _ _)) _ _ _); k_dflt (refine r_fdiv (by walk_at "S_int") (by walk_at "S_int") ?_); intro _ _))
  k_with "binaryOp Mod int int" => (((with_reducible show wpAny _ _ (binaryOp _ (Value.int _ _) (Value.int _ _)) _ _ _); k_dflt (refine r_fmod (by walk_at "S_int") ?_); intro _ _))
  k_with "S_item" => (((with_reducible show wpAny _ _ (subscriptTail _ _ (Value.str (S _) _) (Value.int _ _)) _ _ _); k_dflt (refine r_item (by walk_at "S_int") (by walk_at "S_int") (by walk_at "S_fit") ?_); intro _ _))
  k_with "subscriptTail Name BinOp str int" => (walk_at "S_item")
  k_with "subscriptTail Name Constant str int" => (walk_at "S_item")
  k_with "subscriptTail Name Name str int" => (walk_at "S_item")
  k_with "S_lit" => (first | (with_reducible exact lit_dots) | (with_reducible exact lit_empty) | (with_reducible exact lit34) | (with_reducible exact lit9234) | (with_reducible exact lit92) | (with_reducible exact lit10) | (with_reducible exact lit38) | (with_reducible exact lit59) | (with_reducible rfl))
  k_with "call builtin:str.replace" => (((with_reducible show wpAny _ _ (call (Value.builtin _) [Value.str (S _) _, Value.str _ _, Value.str _ _]) _ _ _); k_dflt (refine r_replace (by walk_at "S_lit") (by walk_at "S_lit") (by decide) (Nat.succ_ne_zero _) (Nat.succ_ne_zero _) (Nat.ne_of_lt (Nat.lt_succ_self _)) (by decide) (by walk_at "S_nn") ?_); intro _ _))
  k_with "call builtin:str.join" => ((k_here; (with_reducible show wpAny _ _ (call (Value.builtin _) [Value.str _ _, Value.ref _]) _ _ _); k_dflt (refine r_join (by walk_at "S_lit") (by walk_at "S_isl") (by walk_at "S_strs") (by walk_at "S_sum") ?_); intro _ _))
  k_with "S_isl" => (first | assumption | exact ⟨LCg.lst _, News.get (by k_asm) (by k_mem), rfl, _, rfl⟩ | is_list)
  k_with "S_strs" => (first | exact StrsAre.nil | assumption | (exact CharsAre.strs (by assumption)))
  k_with "binaryOp Mult str int" => (((with_reducible show wpAny _ _ (binaryOp _ (Value.str (S _) _) (Value.int _ _)) _ _ _); k_dflt (refine r_mul (by walk_at "S_int") (by walk_at "S_int") (by walk_at "S_nn") ?_); intro _ _))
  k_with "S_enterC" => ((refine' code_defCG ?Q13Xa ?Q13Xb ?Q13Xc ?Q13Xd ?Q13Xe ?Q13Xf ?Q13Xg ?Q13Xh ?Q13Xi ?Q13Xj ?Q13Xk ?Q13Xl ?Q13Xm ?Q13Xn ?_ ?Q13Xo ?Q13Xp ?Q13Xq; (case Q13Xf => exact rfl); (case Q13Xg => exact rfl); (case Q13Xh => assumption); (case Q13Xa => k_asm); (case Q13Xb => k_asm); (case Q13Xc => k_asm); (case Q13Xd => k_asm); (case Q13Xe => k_asm); (case Q13Xi => k_is); (case Q13Xj => k_is); (case Q13Xk => ktr_room); (case Q13Xl => exact BindsTo.of_eq rfl); (case Q13Xm => rfl); (case Q13Xn => decide); (case Q13Xo => exact rfl); (case Q13Xp => exact rfl); (case Q13Xq => exact rfl); k_whole; intro Z13Xj Z13Xd Z13Xk Z13Xo Z13Xi Z13Xc Z13Xb Z13Xe Z13Xh Z13Xa Z13Xg Z13Xf Z13Xm Z13Xl Z13Xn; (try dsimp only [List.map_nil, List.map_cons] at Z13Xl); (try k_lt Z13Xm); k_cells Z13Xh; (try simp only [List.cons_append, List.nil_append] at Z13Xe); (try dsimp only); (try k_lift Z13Xa); (try k_fold)))
  k_with "S_lcs" => ((k_here; k_dflt (refine ListComp_S (_F₀ := by k_asm) (by rfl) (by decide) (by rfl) (by decide) (by rfl) ?_)))
  k_with "S_lit" => (first | (with_reducible exact lit_dots) | (with_reducible exact lit_empty) | (with_reducible exact lit34) | (with_reducible exact lit9234) | (with_reducible exact lit92) | (with_reducible exact lit10) | (with_reducible exact lit38) | (with_reducible exact lit59) | (with_reducible exact lit60) | (with_reducible exact lit62) | (with_reducible exact lit13) | (with_reducible exact lit9) | (with_reducible exact litamp) | (with_reducible exact litlt) | (with_reducible exact litgt) | (with_reducible exact litquot) | (with_reducible rfl))
  k_with "S_sum" => (assumption)
  k_with "eval ListComp" => ((k_here; (with_reducible show wpAny _ _ (eval (PySem.Expr.ListComp _ [⟨PySem.Expr.Tuple _ _ _, _, [], 0⟩] _ _) _) _ _ _); k_dflt (refine ListComp_E (_F₀ := by k_asm) (by rfl) (by decide) (by rfl) (by decide) (by rfl) (by rfl) (by decide) ?_)))
  k_with "eval ListComp" => ((k_here; (with_reducible show wpAny _ _ (eval (PySem.Expr.ListComp _ [⟨PySem.Expr.Name _ _, _, [], 0⟩] _ _) _) _ _ _); k_dflt (refine LCg.ListComp_U (F₀ := by k_asm) (by rfl) (by decide) (by rfl) (by decide) (by rfl) ?_)))
  k_with "call type:enumerate" => (refine stop9 ?_)
  k_with "exec Assign cons ListComp" => ((k_here; k_dflt (refine wpAny_Assign_Name ?_ (by rfl))))
  k_with "CompSrc" => (refine stop9 ?_)
  k_with "CompEnd" => (refine stop9 ?_)
  k_with "FinE" => (((unfold LCg.FinE); intro Z1dXa Z1dXd Z1dXf Z1dXb Z1dXc Z1dXe; (try simp only [List.nil_append, List.cons_append] at Z1dXc); (try dsimp only)))
  k_with "FinA" => (((unfold LCg.FinA); intro Z1eXa Z1eXd Z1eXf Z1eXb Z1eXc Z1eXe; (try simp only [List.nil_append, List.cons_append] at Z1eXc); (try dsimp only)))
  k_with "m_k_ne" => (first | (refine neN ?_; (try dsimp only); omega) | exact off1_ne (by assumption) (by k_mem) | exact Ne.symm (off1_ne (by assumption) (by k_mem)))
  k_with "eval ListComp" => ((k_here; (with_reducible show wpAny _ _ (eval (PySem.Expr.ListComp _ [⟨PySem.Expr.Name _ _, _, [_], 0⟩] _ _) _) _ _ _); k_dflt (refine LCt.ListComp_T (F₀ := by k_asm) (by rfl) (by decide) (by rfl) (by decide) (by rfl) ?_)))
  k_with "CompSrcT" => (refine stop9 ?_)
  k_with "S_laps" => ((intro Z1iXf; obtain ⟨Z1iXa, Z1iXj, Z1iXi, Z1iXh, Z1iXc, Z1iXd, Z1iXe⟩ := Z1iXf; subst Z1iXh; (obtain ⟨Z1iXb, Z1iXg⟩ := news_add (by k_asm) (by k_asm) (by k_asm) Z1iXc Z1iXd)))
  k_with "S_il" => (((rename News _ _ _ _ => Z1jXa); exact ⟨_, News.get Z1jXa (by k_mem), rfl, _, rfl⟩))
  k_with "execs cons" => (((have _sf : StopH := by assumption); clear _sf; refine stop9 ?_))
  k_with "call ref" => (refine stop9 ?_)
  k_with "exec Assign cons ListComp" => ((k_here; k_dflt (refine LCg.Assign_ListComp_U (F₀ := by k_asm) (by rfl) (by with_unfolding_all rfl) (by with_unfolding_all rfl) (by decide) (by rfl) (by decide) (by rfl) (by rfl) (by rfl) ?_)))
  trivial
theorem main6 {w : World} {p loose mean mg mb} {dp un : Nat} {gd : Option (List Code)} {L fa : Addr} {ccd : Value} {outer : List Env} {A₀ : Around} {base g : Heap} {m : PySem.Str → Option Value} {s : Shared} {Q : Flow → Shared → Prop} {E : Value → Shared → Prop}
    (o1 o2 o3 o4 o5 o6 o7 : Obj) (Dh G : Addr) (a0 a1 a2 : Int) (t0 t1 t2 : Tok) (q0 : 0 ≤ a0) (q1 : 0 ≤ a1) (q2 : 0 ≤ a2) (fw : Nat) (wr : List Nat → List Nat) (mk f0 f1 f2 : List Nat) (tm u0 u1 u2 : Tok) (hwr : (fw, wr, mk, f0, f1, f2) ∈ wrT) (d2 : o2.data = .cell (some (.ref Dh))) (d3 : o3.data = .cell (some (.str (S mk) tm))) (d4 : o4.data = .cell (some (.ref G))) (lh : @LT.lt Nat _ (L + 1 + 1 + 1 + 1 + 1 + 1 + 1) Dh) (lg : @LT.lt Nat _ Dh G) (x y z : Nat) (ts : Tok) (rx : R8 x) (ry : R8 y) (rz : R8 z) (hxy : x ≠ y) (hsg : m (PySem.Str.ofString "signs") = some (.str (S [x, y, z]) ts)) (hwn : m (PySem.Str.ofString "writer") = some (.ref fw)) (Dp : Addr) (p0 p1 p2 : List Nat) (v0 v1 v2 : Tok) (pc0 : Pc x y z p0) (pc1 : Pc x y z p1) (pc2 : Pc x y z p2) (pn0 : p0 ≠ []) (lp : @LT.lt Nat _ G Dp) (hpn : m (PySem.Str.ofString "pieces") = some (.ref Dp)) (w0 w1 w2 : Int) (tp : Tok) (hpg : m (PySem.Str.ofString "page") = some (.str (S (pageL p0 p1 p2 w0 w1 w2)) tp)) (r : RP) (ok : r.Ok) (kp : Nat) (ps : Array Value) (lr : @LT.lt Nat _ Dp r.aC) (d5 : o5.data = .cell (some (.ref r.aR))) (tl : Tok) (lf : List Value) (kl : Nat) (hlf : CharsAre lf (pageL p0 p1 p2 w0 w1 w2).reverse)
    (hB : Below A₀ base outer g) (hF : Fr g L s.heap m) (hX : (hd.heap_1 w.params).In g) (hT : Top p loose mean mg mb g) (hr : dp + 30 < recursionLimit) (hu : un + 16 * 30 < cLine) (hC : CodeHd base 111 107) (h7 : @LT.lt Nat _ 107 L) (hN : News g L s.heap [(Dp, listOf [.str (S p0) v0, .str (S p1) v1, .str (S p2) v2].toArray 0), (G, tupObj [.str (S f0) u0, .str (S f1) u1, .str (S f2) u2]), (Dh, listOf [.int a0 t0, .int a1 t1, .int a2 t2].toArray 3), (L + 1 + 1 + 1 + 1 + 1 + 1 + 1, o7), (L + 1 + 1 + 1 + 1 + 1 + 1, o6), (L + 1 + 1 + 1 + 1 + 1, o5), (L + 1 + 1 + 1 + 1, o4), (L + 1 + 1 + 1, o3), (L + 1 + 1, o2), (L + 1, o1), (r.aP, listOf (([] : List Value)).toArray kp), (r.aR, instObj 59 r.dR), (r.dR, dictOf [ent w.params "lineno" r.t1 (.int (1) tl), ent w.params "instream" r.t2 (.ref r.aS), ent w.params "whitespace" r.t3 (.str wsT r.t4), ent w.params "pushback" r.t5 (.ref r.aP)] 4), (r.aF, kla_obj (PySem.Str.ofString "<lambda>") r.q (lamArgs 154) (lamBody 154) lamScope [(PySem.Str.ofString "left", r.aC)] r.pm r.cF r.ctv), (r.cF, r.oc), (r.aP2, listOf #[] 0), (r.aS, instObj 59 r.dS), (r.dS, dictOf [ent w.params "lineno" r.s1 (.int 1 r.s0), ent w.params "instream" r.s2 .none, ent w.params "whitespace" r.s3 (.str wsT r.s4), ent w.params "pushback" r.s5 (.ref r.aP2), ent w.params "read" r.s6 (.ref r.aF)] 5), (r.aL, listOf (lf).toArray kl), (r.aC, r.oC), (107, tabObj ps)])
    (next : ∀ (h' : Heap) (tk' : Nat) (m' : PySem.Str → Option Value) (Hd : Addr) (b0 b1 b2 : Tok) (ln : Int) (tl : Tok) (lf : List Value) (kl : Nat), CharsAre lf (rstL p0 p1 p2 w0 w1 w2 3).reverse → ln + ((rstL p0 p1 p2 w0 w1 w2 3).count 10 : Nat) = (1 + ((pageL p0 p1 p2 w0 w1 w2).count 10 : Nat) : Int) → Off1 Hd [(Dp, listOf [.str (S p0) v0, .str (S p1) v1, .str (S p2) v2].toArray 0), (G, tupObj [.str (S f0) u0, .str (S f1) u1, .str (S f2) u2]), (Dh, listOf [.int a0 t0, .int a1 t1, .int a2 t2].toArray 3), (L + 1 + 1 + 1 + 1 + 1 + 1 + 1, o7), (L + 1 + 1 + 1 + 1 + 1 + 1, o6), (L + 1 + 1 + 1 + 1 + 1, o5), (L + 1 + 1 + 1 + 1, o4), (L + 1 + 1 + 1, o3), (L + 1 + 1, o2), (L + 1, o1), (r.aP, listOf (([] : List Value)).toArray kp), (r.aR, instObj 59 r.dR), (r.dR, dictOf [ent w.params "lineno" r.t1 (.int (ln) tl), ent w.params "instream" r.t2 (.ref r.aS), ent w.params "whitespace" r.t3 (.str wsT r.t4), ent w.params "pushback" r.t5 (.ref r.aP)] 4), (r.aF, kla_obj (PySem.Str.ofString "<lambda>") r.q (lamArgs 154) (lamBody 154) lamScope [(PySem.Str.ofString "left", r.aC)] r.pm r.cF r.ctv), (r.cF, r.oc), (r.aP2, listOf #[] 0), (r.aS, instObj 59 r.dS), (r.dS, dictOf [ent w.params "lineno" r.s1 (.int 1 r.s0), ent w.params "instream" r.s2 .none, ent w.params "whitespace" r.s3 (.str wsT r.s4), ent w.params "pushback" r.s5 (.ref r.aP2), ent w.params "read" r.s6 (.ref r.aF)] 5), (r.aL, listOf (lf).toArray kl), (r.aC, r.oC), (107, tabObj ps)] →
      m' (PySem.Str.ofString "signs") = some (.str (S [x, y, z]) ts) → m' (PySem.Str.ofString "writer") = some (.ref fw) → m' (PySem.Str.ofString "pieces") = some (.ref Dp) → m' (PySem.Str.ofString "page") = some (.str (S (pageL p0 p1 p2 w0 w1 w2)) tp) → m' (PySem.Str.ofString "heard") = some (.ref Hd) →
      Fr g L h' m' → News g L h' ((Hd, listOf [.str (S p0) b0, .str (S p1) b1, .str (S p2) b2].toArray 3) :: [(Dp, listOf [.str (S p0) v0, .str (S p1) v1, .str (S p2) v2].toArray 0), (G, tupObj [.str (S f0) u0, .str (S f1) u1, .str (S f2) u2]), (Dh, listOf [.int a0 t0, .int a1 t1, .int a2 t2].toArray 3), (L + 1 + 1 + 1 + 1 + 1 + 1 + 1, o7), (L + 1 + 1 + 1 + 1 + 1 + 1, o6), (L + 1 + 1 + 1 + 1 + 1, o5), (L + 1 + 1 + 1 + 1, o4), (L + 1 + 1 + 1, o3), (L + 1 + 1, o2), (L + 1, o1), (r.aP, listOf (([] : List Value)).toArray kp), (r.aR, instObj 59 r.dR), (r.dR, dictOf [ent w.params "lineno" r.t1 (.int (ln) tl), ent w.params "instream" r.t2 (.ref r.aS), ent w.params "whitespace" r.t3 (.str wsT r.t4), ent w.params "pushback" r.t5 (.ref r.aP)] 4), (r.aF, kla_obj (PySem.Str.ofString "<lambda>") r.q (lamArgs 154) (lamBody 154) lamScope [(PySem.Str.ofString "left", r.aC)] r.pm r.cF r.ctv), (r.cF, r.oc), (r.aP2, listOf #[] 0), (r.aS, instObj 59 r.dS), (r.dS, dictOf [ent w.params "lineno" r.s1 (.int 1 r.s0), ent w.params "instream" r.s2 .none, ent w.params "whitespace" r.s3 (.str wsT r.s4), ent w.params "pushback" r.s5 (.ref r.aP2), ent w.params "read" r.s6 (.ref r.aF)] 5), (r.aL, listOf (lf).toArray kl), (r.aC, r.oC), (107, tabObj ps)]) →
      wpAny (model Challenge.pw_sc0056_01 w) (lawA dp un gd L fa ccd outer) (execs (lawBody.drop 7) (lawEnv L fa ccd)) Q E { s with heap := h', toks := tk' }) :
    wpAny (model Challenge.pw_sc0056_01 w) (lawA dp un gd L fa ccd outer) (execs (lawBody.drop 6) (lawEnv L fa ccd)) Q E s := by
  have hpl := page_len w0 w1 w2 pc0.2 pc1.2 pc2.2
  obtain ⟨hp, gns, dr, tk, os⟩ := s
  conv in (List.drop _ lawBody) => whnf
  (try clear sfl)
  walk1
  ((try clear sfl); have sfl : StopH := trivial)
  k_steps
  refine Stop9.go ?_
  rename Fr _ _ _ _ => F1
  rename News _ _ _ _ => N1
  k_dflt (refine CompSrc.ledger rfl F1 N1 (.head _) (Nat.le_of_ble_eq_true rfl) fun g' => ?_)
  refine rest_ind (J := fun i ys news => (StrsAre ys ([p0, p1, p2].take i)) ∧ ∃ (ln : Int) (tl : Tok) (lf : List Value) (kl : Nat), CharsAre lf (rstL p0 p1 p2 w0 w1 w2 i).reverse ∧ ln + ((rstL p0 p1 p2 w0 w1 w2 i).count 10 : Nat) = (1 + ((pageL p0 p1 p2 w0 w1 w2).count 10 : Nat) : Int) ∧ news = [(Dp, listOf [.str (S p0) v0, .str (S p1) v1, .str (S p2) v2].toArray 0), (G, tupObj [.str (S f0) u0, .str (S f1) u1, .str (S f2) u2]), (Dh, listOf [.int a0 t0, .int a1 t1, .int a2 t2].toArray 3), (L + 1 + 1 + 1 + 1 + 1 + 1 + 1, o7), (L + 1 + 1 + 1 + 1 + 1 + 1, o6), (L + 1 + 1 + 1 + 1 + 1, o5), (L + 1 + 1 + 1 + 1, o4), (L + 1 + 1 + 1, o3), (L + 1 + 1, o2), (L + 1, o1), (r.aP, listOf (([] : List Value)).toArray kp), (r.aR, instObj 59 r.dR), (r.dR, dictOf [ent w.params "lineno" r.t1 (.int (ln) tl), ent w.params "instream" r.t2 (.ref r.aS), ent w.params "whitespace" r.t3 (.str wsT r.t4), ent w.params "pushback" r.t5 (.ref r.aP)] 4), (r.aF, kla_obj (PySem.Str.ofString "<lambda>") r.q (lamArgs 154) (lamBody 154) lamScope [(PySem.Str.ofString "left", r.aC)] r.pm r.cF r.ctv), (r.cF, r.oc), (r.aP2, listOf #[] 0), (r.aS, instObj 59 r.dS), (r.dS, dictOf [ent w.params "lineno" r.s1 (.int 1 r.s0), ent w.params "instream" r.s2 .none, ent w.params "whitespace" r.s3 (.str wsT r.s4), ent w.params "pushback" r.s5 (.ref r.aP2), ent w.params "read" r.s6 (.ref r.aF)] 5), (r.aL, listOf (lf).toArray kl), (r.aC, r.oC), (107, tabObj ps)]) ?step ?fin _ 0 _ _ (Nat.zero_add _) ⟨.nil, 1, tl, lf, kl, hlf, rfl, rfl⟩
  case step =>
    clear N1 F1
    rintro i v ys news I oI C oC D m2 h2 tk2 E9 hi hP ⟨hJ, ln1, tl1, lf1, kl1, hlf1, hln1, rfl⟩ hC2 hx F2 N2 off ne
    have hi' : i < 3 := hi
    dsimp only
    k_steps
    refine Stop9.go (wpAny_call ?_)
    rename Fr _ _ _ _ => F5
    rename News _ _ _ _ => N5
    have hin : ∀ q ∈ rdr 154 w.params r ln1 tl1 [] kp lf1 kl1, q ∈ [(Dp, listOf [.str (S p0) v0, .str (S p1) v1, .str (S p2) v2].toArray 0), (G, tupObj [.str (S f0) u0, .str (S f1) u1, .str (S f2) u2]), (Dh, listOf [.int a0 t0, .int a1 t1, .int a2 t2].toArray 3), (L + 1 + 1 + 1 + 1 + 1 + 1 + 1, o7), (L + 1 + 1 + 1 + 1 + 1 + 1, o6), (L + 1 + 1 + 1 + 1 + 1, o5), (L + 1 + 1 + 1 + 1, o4), (L + 1 + 1 + 1, o3), (L + 1 + 1, o2), (L + 1, o1), (r.aP, listOf (([] : List Value)).toArray kp), (r.aR, instObj 59 r.dR), (r.dR, dictOf [ent w.params "lineno" r.t1 (.int (ln1) tl1), ent w.params "instream" r.t2 (.ref r.aS), ent w.params "whitespace" r.t3 (.str wsT r.t4), ent w.params "pushback" r.t5 (.ref r.aP)] 4), (r.aF, kla_obj (PySem.Str.ofString "<lambda>") r.q (lamArgs 154) (lamBody 154) lamScope [(PySem.Str.ofString "left", r.aC)] r.pm r.cF r.ctv), (r.cF, r.oc), (r.aP2, listOf #[] 0), (r.aS, instObj 59 r.dS), (r.dS, dictOf [ent w.params "lineno" r.s1 (.int 1 r.s0), ent w.params "instream" r.s2 .none, ent w.params "whitespace" r.s3 (.str wsT r.s4), ent w.params "pushback" r.s5 (.ref r.aP2), ent w.params "read" r.s6 (.ref r.aF)] 5), (r.aL, listOf (lf1).toArray kl1), (r.aC, r.oC), (107, tabObj ps)] := by
      dsimp only [rdr, rdr7]
      lcg_sub
    have hsf := rst_suf (p0 := p0) (p1 := p1) (p2 := p2) (w0 := w0) (w1 := w1) (w2 := w2) i
    k_dflt (refine con_gt r ok ln1 tl1 kp lf1 kl1 (rstL p0 p1 p2 w0 w1 w2 i) ([p0, p1, p2].getD i []) (rstL p0 p1 p2 w0 w1 w2 (i + 1)) hlf1 ?hl ?h8 (tok_step (ne92 rx ry rz pc0) (ne92 rx ry rz pc1) (ne92 rx ry rz pc2) i hi') _ _ _ _ _ _ _ _ _ _ _ _ _ _ ⟨_, _, _, _, _⟩ _ _ hB F5 hX hT ?kk ?kr ?ku hC (news_sub N5 fun q hq => .tail _ (.tail _ (.tail _ (hin q hq)))) fun v post h' tk' F' N' K' R => ?_)
    case hl =>
      have := hsf.length_le
      omega
    case h8 => exact suf_all hsf (page_lt (pc_r8 rx ry rz pc0) (pc_r8 rx ry rz pc1) (pc_r8 rx ry rz pc2))
    case kk => rfl
    case kr => ktr_room
    case ku => ktr_units
    obtain ⟨t9, ln9, tl9, lf9, kl9, rfl, rfl, hc9, hn9⟩ := R
    have hof := off.mem
    have No : News g L h' ((I, oI) :: (C, oC) :: (D, lst ys) :: [(Dp, listOf [.str (S p0) v0, .str (S p1) v1, .str (S p2) v2].toArray 0), (G, tupObj [.str (S f0) u0, .str (S f1) u1, .str (S f2) u2]), (Dh, listOf [.int a0 t0, .int a1 t1, .int a2 t2].toArray 3), (L + 1 + 1 + 1 + 1 + 1 + 1 + 1, o7), (L + 1 + 1 + 1 + 1 + 1 + 1, o6), (L + 1 + 1 + 1 + 1 + 1, o5), (L + 1 + 1 + 1 + 1, o4), (L + 1 + 1 + 1, o3), (L + 1 + 1, o2), (L + 1, o1), (107, tabObj ps)] ++ rdr 154 w.params r ln9 tl9 [] kp lf9 kl9) := by
      refine con_own (news_sub N5 ?s1) K' N' ?s2
      case s1 => lcg_sub
      case s2 =>
        intro p hp
        rcases List.mem_cons.mp hp with rfl | hp
        · exact notin_off fun q hq => (hof q (hin q hq)).1
        rcases List.mem_cons.mp hp with rfl | hp
        · exact notin_off fun q hq => (hof q (hin q hq)).2.1
        rcases List.mem_cons.mp hp with rfl | hp
        · exact notin_off fun q hq => (hof q (hin q hq)).2.2
        refine notin_lt ok ?_
        simp only [List.mem_cons, List.not_mem_nil, or_false] at hp
        rcases hp with rfl | rfl | rfl | rfl | rfl | rfl | rfl | rfl | rfl | rfl | rfl <;> (dsimp only; omega)
    clear N5 F5 N' K'
    dsimp only [rdr, rdr7, List.cons_append, List.nil_append] at No
    dsimp only
    show CompEnd g L m _ I oI C oC D _ _ _ _ _
    refine' CompEnd.intro F' No [(Dp, listOf [.str (S p0) v0, .str (S p1) v1, .str (S p2) v2].toArray 0), (G, tupObj [.str (S f0) u0, .str (S f1) u1, .str (S f2) u2]), (Dh, listOf [.int a0 t0, .int a1 t1, .int a2 t2].toArray 3), (L + 1 + 1 + 1 + 1 + 1 + 1 + 1, o7), (L + 1 + 1 + 1 + 1 + 1 + 1, o6), (L + 1 + 1 + 1 + 1 + 1, o5), (L + 1 + 1 + 1 + 1, o4), (L + 1 + 1 + 1, o3), (L + 1 + 1, o2), (L + 1, o1), (r.aP, listOf (([] : List Value)).toArray kp), (r.aR, instObj 59 r.dR), (r.dR, dictOf [ent w.params "lineno" r.t1 (.int (ln9) tl9), ent w.params "instream" r.t2 (.ref r.aS), ent w.params "whitespace" r.t3 (.str wsT r.t4), ent w.params "pushback" r.t5 (.ref r.aP)] 4), (r.aF, kla_obj (PySem.Str.ofString "<lambda>") r.q (lamArgs 154) (lamBody 154) lamScope [(PySem.Str.ofString "left", r.aC)] r.pm r.cF r.ctv), (r.cF, r.oc), (r.aP2, listOf #[] 0), (r.aS, instObj 59 r.dS), (r.dS, dictOf [ent w.params "lineno" r.s1 (.int 1 r.s0), ent w.params "instream" r.s2 .none, ent w.params "whitespace" r.s3 (.str wsT r.s4), ent w.params "pushback" r.s5 (.ref r.aP2), ent w.params "read" r.s6 (.ref r.aF)] 5), (r.aL, listOf (lf9).toArray kl9), (r.aC, r.oC), (107, tabObj ps)] ?sub off ?src ⟨?st, ln9, tl9, lf9, kl9, hc9, hn9.trans hln1, rfl⟩
    case sub => lcg_sub
    case src => lcg_src
    case st =>
      rw [take_next (d := []) hi']
      exact hJ.append (.cons _ _ .nil)
  case fin =>
    rintro ys news ⟨hJ, ln1, tl1, lf1, kl1, hlf1, hln1, rfl⟩
    clear N1 F1
    intro Hd h5 tk5 F5 N5 o5'
    obtain ⟨b0, b1, b2, rfl⟩ := strs3 (show StrsAre ys [p0, p1, p2] from hJ)
    dsimp only
    k_steps
    refine Stop9.go ?_
    rename Fr _ _ _ _ => F6
    rename News _ _ _ _ => N6
    exact next _ _ _ Hd b0 b1 b2 ln1 tl1 lf1 kl1 hlf1 hln1 o5' (by exact hsg) (by exact hwn) (by exact hpn) (by exact hpg) (by rfl) F6 N6
end
section
local macro_rules | `(tactic| walk_at "zz0") => `(tactic| fail)
local macro_rules | `(tactic| walk_at "zz1") => `(tactic| fail)
local macro_rules | `(tactic| walk_at "zz2") => `(tactic| fail)
example : True := by
  k_with_none
  w_top off
  k_with "olt" => (first | assumption | ((fail_if_success refine oM ?_); refine oL ?_; k_extra "ole") | k_extra "olh")
  k_with "olh" => (refine oH (by assumption) (by k_extra "ole"))
  k_with "ole" => (first | exact Nat.le_refl _ | assumption | exact oB | ((first | refine oA ?_ | refine oA2 ?_ | refine oA3 ?_); k_extra "ocl") | (refine oS ?_; k_extra "ole") | (refine Nat.le_of_lt ?_; (first | assumption | k_extra "olh")) | exact oE)
  k_with "olt2" => (first | k_extra "oas" | ((fail_if_success refine oM ?_); refine oL ?_; k_extra "ole2") | k_extra "olh2")
  k_with "olh2" => (refine oH (by k_extra "oas") (by k_extra "ole2"))
  k_with "ole2" => (first | exact Nat.le_refl _ | k_extra "oas" | exact oB | ((first | refine oA ?_ | refine oA2 ?_ | refine oA3 ?_); k_extra "ocl") | (refine oS ?_; k_extra "ole2") | (refine Nat.le_of_lt ?_; (first | k_extra "oas" | k_extra "olh2")) | exact oE)
  k_with "opu" => (first | exact oB | exact Nat.le_refl _ | (refine oS ?_; k_extra "opu"))
  k_with "olt0" => (refine oL ?_; k_extra "opu")
  k_with "one" => (first | (refine Nat.ne_of_gt ?_; (fail_if_success refine oM ?_); k_extra "olt0") | (refine Nat.ne_of_lt ?_; (fail_if_success refine oM ?_); k_extra "olt0") | exact Ne.symm (by assumption) | (refine Nat.ne_of_gt ?_; (fail_if_success refine oM ?_); k_extra "oas") | (refine Nat.ne_of_lt ?_; (fail_if_success refine oM ?_); k_extra "oas") | (refine Nat.ne_of_gt ?_; (fail_if_success refine oM ?_); k_extra "odd") | (refine Nat.ne_of_lt ?_; (fail_if_success refine oM ?_); k_extra "odd") | (refine Nat.ne_of_gt ?_; (fail_if_success refine oM ?_); k_extra "olt") | (refine Nat.ne_of_lt ?_; (fail_if_success refine oM ?_); k_extra "olt") | (refine Nat.ne_of_gt ?_; (fail_if_success refine oM ?_); k_extra "olt2") | (refine Nat.ne_of_lt ?_; (fail_if_success refine oM ?_); k_extra "olt2") | decide)
  k_with "ol1" => (first | ((fail_if_success refine oM ?_); first | k_extra "oas" | k_extra "olt0" | k_extra "odd" | k_extra "olt" | k_extra "olt2") | k_extra "ocl" | exact oT0 | exact oT5)
  k_with "oe1" => (first | ((fail_if_success refine oN ?_); first | k_extra "oas" | k_extra "opu" | k_extra "ole" | k_extra "ole2" | exact oE (by k_extra "oas")) | k_extra "ocl" | k_extra "olit" | k_extra "oas")
  k_with "olit" => (first | exact oT4 | exact oP | exact oP2 | exact oT1 | exact oT2 | exact oT3 | exact oQ5 | exact oQ1 | exact oQ2 | exact oQ3 | exact oQ4 | exact oQ6 | exact oD)
  k_with "ocl" => (with_unfolding_all exact Nat.le_of_ble_eq_true rfl)
  k_with "oas" => (first | assumption | exact oa1 | exact ob1 | exact oa2 | exact ob2 | exact oa3 | exact ob3 | exact oa4 | exact ob4 | exact oa5 | exact ob5 | exact oa6 | exact ob6 | exact oa7 | exact ob7)
  k_with "odd" => (first | exact oa1 ob7 | exact oa2 ob7 | exact oa3 ob7 | exact oa4 ob7 | exact oa5 ob7 | exact oa6 ob7 | exact oa7 ob7 | exact oa1 (ob7 ob7) | exact oa2 (ob7 ob7) | exact oa3 (ob7 ob7) | exact oa4 (ob7 ob7) | exact oa5 (ob7 ob7) | exact oa6 (ob7 ob7) | exact oa7 (ob7 ob7) | exact ob1 ob7 | exact ob2 ob7 | exact ob3 ob7 | exact ob4 ob7 | exact ob5 ob7 | exact ob6 ob7 | exact ob7 ob7)
  k_with "oin" => (first | decide | exact oI1 | exact oI3 | exact oI2 (by k_extra "oas"))
  k_with "om" => (with_reducible first | (first | assumption | ((fail_if_success fail_if_success refine oXn ?_); k_extra "one") | ((fail_if_success fail_if_success refine oXl ?_); k_extra "ol1") | ((fail_if_success fail_if_success refine oXe ?_); k_extra "oe1") | k_extra "oin") | fail)
  k_with "S_fit" => (first | omega | ((simp only [S_len, List.length_append, List.length_cons, List.length_nil, List.length_take, List.length_drop, dots, PySem.sizeLine_eq]); omega))
  k_with "call builtin:len" => (((with_reducible show wpAny _ _ (call (Value.builtin "len") [Value.str (S _) _]) _ _ _); refine r_len (by walk_at "S_fit") ?_))
  k_with "call builtin:str.startswith" => (((with_reducible show wpAny _ _ (call (Value.builtin "str.startswith") [Value.str (S _) _, Value.str (S _) _]) _ _ _); refine r_starts ?_))
  k_with "call builtin:str.endswith" => (((with_reducible show wpAny _ _ (call (Value.builtin "str.endswith") [Value.str (S _) _, Value.str (S _) _]) _ _ _); refine r_ends ?_))
  k_with "truthy str" => (((with_reducible show wpAny _ _ (truthy (Value.str (S _) _)) _ _ _); refine r_truthy (by walk_at "S_fit") ?_))
  k_with "exec For Name Name cons nil" => ((k_here; (rename Fr _ _ _ _ => Z6Xa); (with_unfolding_all refine' For_invVF Z6Xa ?Q6Xa ?Q6Xb ?_; (case Q6Xa => exact rfl); (case Q6Xb => exact rfl); k_whole)))
  k_with "pyIter ref" => (((with_reducible show wpAny _ _ (pyIter (Value.ref _)) (fun it s₂ => LoopAtV _ _ _ _ _ _ _ _ _ it s₂) _ _); k_listUnr))
  k_with "S_enter" => ((refine' code_defG (news := []) ?Q8Xa ?Q8Xb ?Q8Xc ?Q8Xd ?Q8Xe ?Q8Xf ?Q8Xg ?Q8Xh ?Q8Xi ?Q8Xj ?Q8Xk ?Q8Xl ?Q8Xm ?_ ?Q8Xn ?Q8Xo ?Q8Xp ?Q8Xq; (case Q8Xf => exact rfl); (case Q8Xg => exact rfl); (case Q8Xh => assumption); (case Q8Xa => k_asm); (case Q8Xb => k_asm); (case Q8Xc => k_asm); (case Q8Xd => exact News.nil); (case Q8Xe => k_asm); (case Q8Xi => k_is); (case Q8Xj => k_is); (case Q8Xk => ktr_room); (case Q8Xl => exact BindsTo.of_eq rfl); (case Q8Xq => decide); (case Q8Xm => exact locs rfl); (case Q8Xn => exact rfl); (case Q8Xo => exact rfl); (case Q8Xp => exact rfl); k_whole; intro Z8Xh Z8Xd Z8Xi Z8Xc Z8Xb Z8Xe Z8Xa Z8Xg Z8Xf Z8Xj; (try dsimp only [List.map_nil] at Z8Xj); (try dsimp only); (try k_lift Z8Xa); (try k_fold)))
  k_with "S_look" => (first | exact rfl | assumption | exact (if_pos rfl) | (refine (if_neg (by decide)).trans ?_; walk_at "S_look"))
  k_with "eval Name" => ((k_here; k_dflt (refine' nameX_L ?QaXa ?QaXb ?_ ?QaXc ?QaXd; (case QaXa => k_asm); (case QaXc => rfl); (case QaXd => rfl); (case QaXb => walk_at "S_look"); k_whole)))
  k_with "S_lit" => (first | (with_reducible exact lit_dots) | (with_reducible rfl))
  k_with "S_nn" => (first | omega | ((simp only [List.length_append, List.length_cons, List.length_nil, List.length_take, List.length_drop, dots] at *); omega))
  k_with "binaryOp Add str str" => (((with_reducible show wpAny _ _ (binaryOp _ (Value.str _ _) (Value.str _ _)) _ _ _); k_dflt (refine r_add (by walk_at "S_lit") (by walk_at "S_lit") (by walk_at "S_fit") ?_); intro _ _))
  k_with "subscriptTail Name Slice str ref" => (((with_reducible show wpAny _ _ (subscriptTail _ (Expr.Slice none (some _) none _) (Value.str (S _) _) _) _ _ _); (with_reducible rename Fr _ _ _ _ => ZeXa); (with_reducible rename News _ _ _ _ => ZeXb); (refine r_sliceTo (s := ⟨_, _, _, _, _⟩) ZeXa ZeXb (by walk_at "S_nn") (by walk_at "S_fit") ?_); intro _ _ _ _ _))
  k_with "subscriptTail Name Slice str ref" => (((with_reducible show wpAny _ _ (subscriptTail _ (Expr.Slice (some _) none none _) (Value.str (S _) _) _) _ _ _); (with_reducible rename Fr _ _ _ _ => ZfXa); (with_reducible rename News _ _ _ _ => ZfXb); (refine r_sliceFrom (s := ⟨_, _, _, _, _⟩) ZfXa ZfXb (by walk_at "S_nn") (by walk_at "S_fit") ?_); intro _ _ _ _ _))
  k_with "exec For Name Call cons nil" => ((k_here; (rename Fr _ _ _ _ => ZgXa); (with_unfolding_all refine' For_invVF ZgXa ?QgXa ?QgXb ?_; (case QgXa => exact rfl); (case QgXb => exact rfl); k_whole)))
  k_with "S_use" => ((refine' pcon_use ?QhXa ?QhXb ?QhXc ?QhXd ?QhXe ?QhXf ?QhXg ?QhXh ?_; (case QhXb => k_asm); (case QhXc => k_asm); (case QhXd => k_asm); (case QhXe => k_asm); (case QhXa => walk_at "S_con"); (case QhXf => first | exact rfl | assumption); (case QhXg => ktr_room); (case QhXh => ktr_units)))
  k_with "call ref" => ((k_here; k_dflt (walk_at "S_use"); intro ZiXf ZiXd ZiXe ZiXb; (have ZiXa := Fr.keeps (by k_asm) ZiXb); (have ZiXc := News.grown (by k_asm) ZiXb); walk_at "S_back" <;> ((try dsimp only); (try k_fold))))
  k_with "pyIter ref" => (k_extra "S_loop")
  k_with "S_bool" => ((intro ZkXa; (rcases bool_or ZkXa with ⟨R8, R7⟩ | ⟨R8, R7⟩) <;> subst R7))
  k_with "call builtin:list.append" => ((k_here; (with_reducible show wpAny _ _ (call (Value.builtin _) [Value.ref _, _]) _ _ _); k_dflt (refine' append_K ?QlXa ?QlXb ?QlXc ?_ ?QlXd; (case QlXa => k_asm); (case QlXb => k_asm); (case QlXc => k_upd); (case QlXd => exact size_ok (k := 100000) (by omega) (by decide)); k_whole); intro ZlXc ZlXa ZlXb; (try k_sweep)))
  k_with "m_k_room" => (ktr_room)
  k_with "m_k_units" => (ktr_units)
  k_with "S_enterM" => ((refine' code_defG ?QoXa ?QoXb ?QoXc ?QoXd ?QoXe ?QoXf ?QoXg ?QoXh ?QoXi ?QoXj ?QoXk ?QoXl ?QoXm ?_ ?QoXn ?QoXo ?QoXp ?QoXq; (case QoXf => exact rfl); (case QoXg => exact rfl); (case QoXh => assumption); (case QoXa => k_asm); (case QoXb => k_asm); (case QoXc => k_asm); (case QoXd => k_asm); (case QoXe => k_asm); (case QoXi => k_is); (case QoXj => k_is); (case QoXk => ktr_room); (case QoXl => exact BindsTo.of_eq rfl); (case QoXq => decide); (case QoXm => exact locs rfl); (case QoXn => exact rfl); (case QoXo => exact rfl); (case QoXp => exact rfl); k_whole; intro ZoXh ZoXd ZoXi ZoXc ZoXb ZoXe ZoXa ZoXg ZoXf ZoXj; (try dsimp only [List.map_nil, List.map_cons] at ZoXj); (try dsimp only); (try k_lift ZoXa); (try k_fold)))
  k_with "callWith" => (((with_reducible show wpAny _ _ (callWith _ (Prod.fst _) (Prod.snd _) _ _) _ _ _); dsimp only))
  k_with "S_int" => (first | omega | decide | ((simp only [List.length_cons, List.length_nil, decide_eq_true_eq, decide_eq_false_iff_not, beq_iff_eq, beq_eq_false_iff_ne, ne_eq, Int.not_lt, Int.not_le] at *); omega))
  k_with "binaryOp FloorDiv int int" => (((with_reducible show wpAny _ _ (binaryOp _ (Value.int _ _) (Value.int _ _)) _ _ _); k_dflt (refine r_fdiv (by walk_at "S_int") (by walk_at "S_int") ?_); intro _ _))
  k_with "binaryOp Mod int int" => (((with_reducible show wpAny _ _ (binaryOp _ (Value.int _ _) (Value.int _ _)) _ _ _); k_dflt (refine r_fmod (by walk_at "S_int") ?_); intro _ _))
  k_with "S_item" => (((with_reducible show wpAny _ _ (subscriptTail _ _ (Value.str (S _) _) (Value.int _ _)) _ _ _); k_dflt (refine r_item (by walk_at "S_int") (by walk_at "S_int") (by walk_at "S_fit") ?_); intro _ _))
  k_with "subscriptTail Name BinOp str int" => (walk_at "S_item")
  k_with "subscriptTail Name Constant str int" => (walk_at "S_item")
  k_with "subscriptTail Name Name str int" => (walk_at "S_item")
  k_with "S_lit" => (first | (with_reducible exact lit_dots) | (with_reducible exact lit_empty) | (with_reducible exact lit34) | (with_reducible exact lit9234) | (with_reducible exact lit92) | (with_reducible exact lit10) | (with_reducible exact lit38) | (with_reducible exact lit59) | (with_reducible rfl))
  k_with "call builtin:str.replace" => (((with_reducible show wpAny _ _ (call (Value.builtin _) [Value.str (S _) _, Value.str _ _, Value.str _ _]) _ _ _); k_dflt (refine r_replace (by walk_at "S_lit") (by walk_at "S_lit") (by decide) (Nat.succ_ne_zero _) (Nat.succ_ne_zero _) (Nat.ne_of_lt (Nat.lt_succ_self _)) (by decide) (by walk_at "S_nn") ?_); intro _ _))
  k_with "call builtin:str.join" => ((k_here; (with_reducible show wpAny _ _ (call (Value.builtin _) [Value.str _ _, Value.ref _]) _ _ _); k_dflt (refine r_join (by walk_at "S_lit") (by walk_at "S_isl") (by walk_at "S_strs") (by walk_at "S_sum") ?_); intro _ _))
  k_with "S_isl" => (first | assumption | exact ⟨LCg.lst _, News.get (by k_asm) (by k_mem), rfl, _, rfl⟩ | is_list)
  k_with "S_strs" => (first | exact StrsAre.nil | assumption | (exact CharsAre.strs (by assumption)))
  k_with "binaryOp Mult str int" => (((with_reducible show wpAny _ _ (binaryOp _ (Value.str (S _) _) (Value.int _ _)) _ _ _); k_dflt (refine r_mul (by walk_at "S_int") (by walk_at "S_int") (by walk_at "S_nn") ?_); intro _ _))
  k_with "S_enterC" => ((refine' code_defCG ?Q13Xa ?Q13Xb ?Q13Xc ?Q13Xd ?Q13Xe ?Q13Xf ?Q13Xg ?Q13Xh ?Q13Xi ?Q13Xj ?Q13Xk ?Q13Xl ?Q13Xm ?Q13Xn ?_ ?Q13Xo ?Q13Xp ?Q13Xq; (case Q13Xf => exact rfl); (case Q13Xg => exact rfl); (case Q13Xh => assumption); (case Q13Xa => k_asm); (case Q13Xb => k_asm); (case Q13Xc => k_asm); (case Q13Xd => k_asm); (case Q13Xe => k_asm); (case Q13Xi => k_is); (case Q13Xj => k_is); (case Q13Xk => ktr_room); (case Q13Xl => exact BindsTo.of_eq rfl); (case Q13Xm => rfl); (case Q13Xn => decide); (case Q13Xo => exact rfl); (case Q13Xp => exact rfl); (case Q13Xq => exact rfl); k_whole; intro Z13Xj Z13Xd Z13Xk Z13Xo Z13Xi Z13Xc Z13Xb Z13Xe Z13Xh Z13Xa Z13Xg Z13Xf Z13Xm Z13Xl Z13Xn; (try dsimp only [List.map_nil, List.map_cons] at Z13Xl); (try k_lt Z13Xm); k_cells Z13Xh; (try simp only [List.cons_append, List.nil_append] at Z13Xe); (try dsimp only); (try k_lift Z13Xa); (try k_fold)))
  k_with "S_lcs" => ((k_here; k_dflt (refine ListComp_S (_F₀ := by k_asm) (by rfl) (by decide) (by rfl) (by decide) (by rfl) ?_)))
  k_with "S_lit" => (first | (with_reducible exact lit_dots) | (with_reducible exact lit_empty) | (with_reducible exact lit34) | (with_reducible exact lit9234) | (with_reducible exact lit92) | (with_reducible exact lit10) | (with_reducible exact lit38) | (with_reducible exact lit59) | (with_reducible exact lit60) | (with_reducible exact lit62) | (with_reducible exact lit13) | (with_reducible exact lit9) | (with_reducible exact litamp) | (with_reducible exact litlt) | (with_reducible exact litgt) | (with_reducible exact litquot) | (with_reducible rfl))
  k_with "S_sum" => (assumption)
  k_with "eval ListComp" => ((k_here; (with_reducible show wpAny _ _ (eval (PySem.Expr.ListComp _ [⟨PySem.Expr.Tuple _ _ _, _, [], 0⟩] _ _) _) _ _ _); k_dflt (refine ListComp_E (_F₀ := by k_asm) (by rfl) (by decide) (by rfl) (by decide) (by rfl) (by rfl) (by decide) ?_)))
  k_with "eval ListComp" => ((k_here; (with_reducible show wpAny _ _ (eval (PySem.Expr.ListComp _ [⟨PySem.Expr.Name _ _, _, [], 0⟩] _ _) _) _ _ _); k_dflt (refine LCg.ListComp_U (F₀ := by k_asm) (by rfl) (by decide) (by rfl) (by decide) (by rfl) ?_)))
  k_with "call type:enumerate" => (refine stop9 ?_)
  k_with "exec Assign cons ListComp" => ((k_here; k_dflt (refine wpAny_Assign_Name ?_ (by rfl))))
  k_with "CompSrc" => (refine stop9 ?_)
  k_with "CompEnd" => (refine stop9 ?_)
  k_with "FinE" => (((unfold LCg.FinE); intro Z1dXa Z1dXd Z1dXf Z1dXb Z1dXc Z1dXe; (try simp only [List.nil_append, List.cons_append] at Z1dXc); (try dsimp only)))
  k_with "FinA" => (((unfold LCg.FinA); intro Z1eXa Z1eXd Z1eXf Z1eXb Z1eXc Z1eXe; (try simp only [List.nil_append, List.cons_append] at Z1eXc); (try dsimp only)))
  k_with "m_k_ne" => (first | (refine neN ?_; (try dsimp only); omega) | exact off1_ne (by assumption) (by k_mem) | exact Ne.symm (off1_ne (by assumption) (by k_mem)))
  k_with "eval ListComp" => ((k_here; (with_reducible show wpAny _ _ (eval (PySem.Expr.ListComp _ [⟨PySem.Expr.Name _ _, _, [_], 0⟩] _ _) _) _ _ _); k_dflt (refine LCt.ListComp_T (F₀ := by k_asm) (by rfl) (by decide) (by rfl) (by decide) (by rfl) ?_)))
  k_with "CompSrcT" => (refine stop9 ?_)
  k_with "S_laps" => ((intro Z1iXf; obtain ⟨Z1iXa, Z1iXj, Z1iXi, Z1iXh, Z1iXc, Z1iXd, Z1iXe⟩ := Z1iXf; subst Z1iXh; (obtain ⟨Z1iXb, Z1iXg⟩ := news_add (by k_asm) (by k_asm) (by k_asm) Z1iXc Z1iXd)))
  k_with "S_il" => (((rename News _ _ _ _ => Z1jXa); exact ⟨_, News.get Z1jXa (by k_mem), rfl, _, rfl⟩))
  k_with "execs cons" => (((have _sf : StopH := by assumption); clear _sf; refine stop9 ?_))
  k_with "exec Assign cons ListComp" => ((k_here; k_dflt (refine LCt.Assign_ListComp_T (F₀ := by k_asm) (by rfl) (by with_unfolding_all rfl) (by with_unfolding_all rfl) (by decide) (by rfl) (by decide) (by rfl) (by rfl) (by rfl) ?_)))
  k_with "S_con" => (first | exact con_ell _ _ _ _ _ (by walk_at "S_nn") (by walk_at "S_nn") (by walk_at "S_nn") (by walk_at "S_free") (by walk_at "S_free") | exact con_ell0 _ _ _ _ (by walk_at "S_nn") (by walk_at "S_nn") (by walk_at "S_free") | exact con_ell1 _ _ _ _ (by walk_at "S_nn") (by walk_at "S_nn") (by walk_at "S_free"))
  k_with "S_free" => (first | assumption | (intro Z1nXa; exact absurd (List.mem_of_mem_take Z1nXa) (by assumption)) | (intro Z1nXa; exact absurd (List.mem_of_mem_drop Z1nXa) (by assumption)))
  k_with "S_back" => (intro Z1oXa; refine stop9 ?_)
  trivial
theorem main10 {w : World} {p loose mean mg mb} {dp un : Nat} {gd : Option (List Code)} {L fa : Addr} {ccd : Value} {outer : List Env} {A₀ : Around} {base g : Heap} {m : PySem.Str → Option Value} {s : Shared} {Q : Flow → Shared → Prop} {E : Value → Shared → Prop}
    (o6 o7 : Obj) (txt : List Nat) (hx9 : txt.length ≤ 9) (hx1 : txt ≠ []) (tt : Tok) (hfr : 46 ∉ txt) (Dl : Addr) (pl : List Value) (hpl2 : IntsAre pl (nI (lapsL txt))) (d7 : o7.data = .cell (some (.ref Dl))) (d6 : o6.data = .cell (some (.str (S txt) tt))) (tl : List (Addr × Obj))
    (hB : Below A₀ base outer g) (hF : Fr g L s.heap m) (hX : (hd.heap_1 w.params).In g) (hT : Top p loose mean mg mb g) (hr : dp + 30 < recursionLimit) (hu : un + 16 * 30 < cLine) (hC : CodeHd base 111 107) (hN : News g L s.heap ((Dl, lst pl) :: (L + 1 + 1 + 1 + 1 + 1 + 1 + 1, o7) :: (L + 1 + 1 + 1 + 1 + 1 + 1, o6) :: tl))
    (next : ∀ (h' : Heap) (tk' : Nat) (m' : PySem.Str → Option Value) (Dr : Addr), m' = (fun y => if y = (PySem.Str.ofString "room") then some (.ref Dr) else m y) →
      Fr g L h' m' → News g L h' ((Dr, lst []) :: (Dl, lst pl) :: (L + 1 + 1 + 1 + 1 + 1 + 1 + 1, o7) :: (L + 1 + 1 + 1 + 1 + 1 + 1, o6) :: tl) →
      wpAny (model Challenge.pw_sc0056_01 w) (lawA dp un gd L fa ccd outer) (execs (lawBody.drop 11) (lawEnv L fa ccd)) Q E { s with heap := h', toks := tk' }) :
    wpAny (model Challenge.pw_sc0056_01 w) (lawA dp un gd L fa ccd outer) (execs (lawBody.drop 10) (lawEnv L fa ccd)) Q E s := by
  obtain ⟨hp, gns, dr, tk, os⟩ := s
  conv in (List.drop _ lawBody) => whnf
  (try clear sfl)
  walk1
  ((try clear sfl); have sfl : StopH := trivial)
  k_steps
  refine Stop9.go ?_
  rename Fr _ _ _ _ => F1
  rename News _ _ _ _ => N1
  have hpl3 := hpl2.length
  have hpl4 : (lapsL txt).length ≤ 9 := by
    have := List.length_filter_le (lapB txt) ((List.range txt.length).map (· + 1))
    rw [List.length_map, List.length_range] at this
    exact Nat.le_trans this hx9
  simp only [nI, List.length_map] at hpl3
  k_dflt (refine LCt.CompSrcT.ledger rfl F1 N1 (.head _) (by rw [List.size_toArray, PySem.sizeLine_eq]; omega) fun g' => ?_)
  refine rest_indT (J := fun i ys news => ys = [] ∧ news = _) ?step ?fin _ 0 _ _ (Nat.zero_add _) ⟨rfl, rfl⟩
  case step =>
    clear N1 F1
    rintro i v ys news I oI C oC D m2 h2 tk2 E9 hi hP ⟨rfl, rfl⟩ hC2 hx F2 N2 off ne
    obtain ⟨kz, uz, rfl, hz1, hz2, hz3, hz4⟩ := laps_get hpl2 hP
    dsimp only
    k_steps
    rename _ = Value.bool (ellB _ _ _) => R9
    rw [room_ell hz2 hz4] at R9
    subst R9
    refine Stop9.go ?_
    k_steps
    · rename (_ != _) = true => hb
      simp at hb
    · rename Fr _ _ _ _ => F5
      rename News _ _ _ _ => N5
      refine Stop9.go (CompEnd.intro F5 N5 _ ?s2 off ?sr ⟨rfl, rfl⟩)
      case s2 => (intro p hp; repeat first | exact hp | apply List.mem_cons_of_mem)
      case sr => lcg_src
  case fin =>
    rintro ys news ⟨rfl, rfl⟩
    clear N1 F1
    intro Dr h5 tk5 F5 N5 o5'
    dsimp only
    k_steps
    refine Stop9.go ?_
    rename Fr _ _ _ _ => F6
    rename News _ _ _ _ => N6
    exact next _ _ _ Dr rfl F6 N6
end
section
theorem main11 {w : World} {p loose mean mg mb} {dp un : Nat} {gd : Option (List Code)} {L fa : Addr} {ccd : Value} {outer : List Env} {A₀ : Around} {base g : Heap} {m : PySem.Str → Option Value} {s : Shared} {Q : Flow → Shared → Prop} {E : Value → Shared → Prop}
    (o6 o7 : Obj) (txt : List Nat) (hx9 : txt.length ≤ 9) (hx1 : txt ≠ []) (tt : Tok) (hfr : 46 ∉ txt) (Dl : Addr) (pl : List Value) (hpl2 : IntsAre pl (nI (lapsL txt))) (d7 : o7.data = .cell (some (.ref Dl))) (d6 : o6.data = .cell (some (.str (S txt) tt))) (tl : List (Addr × Obj))
    (hB : Below A₀ base outer g) (hF : Fr g L s.heap m) (hX : (hd.heap_1 w.params).In g) (hT : Top p loose mean mg mb g) (hr : dp + 30 < recursionLimit) (hu : un + 16 * 30 < cLine) (hC : CodeHd base 111 107) (hN : News g L s.heap ((Dl, lst pl) :: (L + 1 + 1 + 1 + 1 + 1 + 1 + 1, o7) :: (L + 1 + 1 + 1 + 1 + 1 + 1, o6) :: tl))
    (next : ∀ (h' : Heap) (tk' : Nat) (m' : PySem.Str → Option Value) (Dr : Addr), m' = (fun y => if y = (PySem.Str.ofString "ahead") then some (.ref Dr) else m y) →
      Fr g L h' m' → News g L h' ((Dr, lst []) :: (Dl, lst pl) :: (L + 1 + 1 + 1 + 1 + 1 + 1 + 1, o7) :: (L + 1 + 1 + 1 + 1 + 1 + 1, o6) :: tl) →
      wpAny (model Challenge.pw_sc0056_01 w) (lawA dp un gd L fa ccd outer) (execs (lawBody.drop 12) (lawEnv L fa ccd)) Q E { s with heap := h', toks := tk' }) :
    wpAny (model Challenge.pw_sc0056_01 w) (lawA dp un gd L fa ccd outer) (execs (lawBody.drop 11) (lawEnv L fa ccd)) Q E s := by
  obtain ⟨hp, gns, dr, tk, os⟩ := s
  conv in (List.drop _ lawBody) => whnf
  (try clear sfl)
  walk1
  ((try clear sfl); have sfl : StopH := trivial)
  k_steps
  refine Stop9.go ?_
  rename Fr _ _ _ _ => F1
  rename News _ _ _ _ => N1
  rename IsRange _ _ _ _ _ _ _ _ => hR9
  have hpl4 : (lapsL txt).length ≤ 9 := by
    have := List.length_filter_le (lapB txt) ((List.range txt.length).map (· + 1))
    rw [List.length_map, List.length_range] at this
    exact Nat.le_trans this hx9
  k_dflt (refine LCt.CompSrcT.range (n := txt.length) rfl F1 N1 hR9 (small_le (by omega) (by omega) (by omega) (by omega)) (by rw [rangeSize_nat]; omega) (by rw [PySem.sizeLine_eq]; omega) fun g' => ?_)
  refine rest_indT (J := fun i ys news => ys = [] ∧ news = _) ?step ?fin _ 0 _ _ (Nat.zero_add _) ⟨rfl, rfl⟩
  case step =>
    clear N1 F1 hR9
    rintro i v ys news I oI C oC D m2 h2 tk2 E9 hi ⟨uz, rfl⟩ ⟨rfl, rfl⟩ hC2 hx F2 N2 off ne
    dsimp only
    k_steps
    rename _ = Value.bool (ellB _ _ _) => R9
    rw [ahead_ell2 hi] at R9
    subst R9
    refine Stop9.go ?_
    k_steps
    · rename (_ != _) = true => hb
      simp at hb
    · rename Fr _ _ _ _ => F5
      rename News _ _ _ _ => N5
      refine Stop9.go (CompEnd.intro F5 N5 _ ?s2 off trivial ⟨rfl, rfl⟩)
      case s2 => (intro p hp; repeat first | exact hp | apply List.mem_cons_of_mem)
  case fin =>
    rintro ys news ⟨rfl, rfl⟩
    clear N1 F1
    intro Dr h5 tk5 F5 N5 o5'
    dsimp only
    k_steps
    refine Stop9.go ?_
    rename Fr _ _ _ _ => F6
    rename News _ _ _ _ => N6
    exact next _ _ _ Dr rfl F6 N6
end
section
local macro_rules | `(tactic| walk_at "zz0") => `(tactic| fail)
local macro_rules | `(tactic| walk_at "zz1") => `(tactic| fail)
local macro_rules | `(tactic| walk_at "zz2") => `(tactic| fail)
example : True := by
  k_with_none
  w_top off
  k_with "olt" => (first | assumption | ((fail_if_success refine oM ?_); refine oL ?_; k_extra "ole") | k_extra "olh")
  k_with "olh" => (refine oH (by assumption) (by k_extra "ole"))
  k_with "ole" => (first | exact Nat.le_refl _ | assumption | exact oB | ((first | refine oA ?_ | refine oA2 ?_ | refine oA3 ?_); k_extra "ocl") | (refine oS ?_; k_extra "ole") | (refine Nat.le_of_lt ?_; (first | assumption | k_extra "olh")) | exact oE)
  k_with "olt2" => (first | k_extra "oas" | ((fail_if_success refine oM ?_); refine oL ?_; k_extra "ole2") | k_extra "olh2")
  k_with "olh2" => (refine oH (by k_extra "oas") (by k_extra "ole2"))
  k_with "ole2" => (first | exact Nat.le_refl _ | k_extra "oas" | exact oB | ((first | refine oA ?_ | refine oA2 ?_ | refine oA3 ?_); k_extra "ocl") | (refine oS ?_; k_extra "ole2") | (refine Nat.le_of_lt ?_; (first | k_extra "oas" | k_extra "olh2")) | exact oE)
  k_with "opu" => (first | exact oB | exact Nat.le_refl _ | (refine oS ?_; k_extra "opu"))
  k_with "olt0" => (refine oL ?_; k_extra "opu")
  k_with "one" => (first | (refine Nat.ne_of_gt ?_; (fail_if_success refine oM ?_); k_extra "olt0") | (refine Nat.ne_of_lt ?_; (fail_if_success refine oM ?_); k_extra "olt0") | exact Ne.symm (by assumption) | (refine Nat.ne_of_gt ?_; (fail_if_success refine oM ?_); k_extra "oas") | (refine Nat.ne_of_lt ?_; (fail_if_success refine oM ?_); k_extra "oas") | (refine Nat.ne_of_gt ?_; (fail_if_success refine oM ?_); k_extra "odd") | (refine Nat.ne_of_lt ?_; (fail_if_success refine oM ?_); k_extra "odd") | (refine Nat.ne_of_gt ?_; (fail_if_success refine oM ?_); k_extra "olt") | (refine Nat.ne_of_lt ?_; (fail_if_success refine oM ?_); k_extra "olt") | (refine Nat.ne_of_gt ?_; (fail_if_success refine oM ?_); k_extra "olt2") | (refine Nat.ne_of_lt ?_; (fail_if_success refine oM ?_); k_extra "olt2") | decide)
  k_with "ol1" => (first | ((fail_if_success refine oM ?_); first | k_extra "oas" | k_extra "olt0" | k_extra "odd" | k_extra "olt" | k_extra "olt2") | k_extra "ocl" | exact oT0 | exact oT5)
  k_with "oe1" => (first | ((fail_if_success refine oN ?_); first | k_extra "oas" | k_extra "opu" | k_extra "ole" | k_extra "ole2" | exact oE (by k_extra "oas")) | k_extra "ocl" | k_extra "olit" | k_extra "oas")
  k_with "olit" => (first | exact oT4 | exact oP | exact oP2 | exact oT1 | exact oT2 | exact oT3 | exact oQ5 | exact oQ1 | exact oQ2 | exact oQ3 | exact oQ4 | exact oQ6 | exact oD)
  k_with "ocl" => (with_unfolding_all exact Nat.le_of_ble_eq_true rfl)
  k_with "oas" => (first | assumption | exact oa1 | exact ob1 | exact oa2 | exact ob2 | exact oa3 | exact ob3 | exact oa4 | exact ob4 | exact oa5 | exact ob5 | exact oa6 | exact ob6 | exact oa7 | exact ob7)
  k_with "odd" => (first | exact oa1 ob7 | exact oa2 ob7 | exact oa3 ob7 | exact oa4 ob7 | exact oa5 ob7 | exact oa6 ob7 | exact oa7 ob7 | exact oa1 (ob7 ob7) | exact oa2 (ob7 ob7) | exact oa3 (ob7 ob7) | exact oa4 (ob7 ob7) | exact oa5 (ob7 ob7) | exact oa6 (ob7 ob7) | exact oa7 (ob7 ob7) | exact ob1 ob7 | exact ob2 ob7 | exact ob3 ob7 | exact ob4 ob7 | exact ob5 ob7 | exact ob6 ob7 | exact ob7 ob7)
  k_with "oin" => (first | decide | exact oI1 | exact oI3 | exact oI2 (by k_extra "oas"))
  k_with "om" => (with_reducible first | (first | assumption | ((fail_if_success fail_if_success refine oXn ?_); k_extra "one") | ((fail_if_success fail_if_success refine oXl ?_); k_extra "ol1") | ((fail_if_success fail_if_success refine oXe ?_); k_extra "oe1") | k_extra "oin") | fail)
  k_with "S_fit" => (first | omega | ((simp only [S_len, List.length_append, List.length_cons, List.length_nil, List.length_take, List.length_drop, dots, PySem.sizeLine_eq]); omega))
  k_with "call builtin:len" => (((with_reducible show wpAny _ _ (call (Value.builtin "len") [Value.str (S _) _]) _ _ _); refine r_len (by walk_at "S_fit") ?_))
  k_with "call builtin:str.startswith" => (((with_reducible show wpAny _ _ (call (Value.builtin "str.startswith") [Value.str (S _) _, Value.str (S _) _]) _ _ _); refine r_starts ?_))
  k_with "call builtin:str.endswith" => (((with_reducible show wpAny _ _ (call (Value.builtin "str.endswith") [Value.str (S _) _, Value.str (S _) _]) _ _ _); refine r_ends ?_))
  k_with "truthy str" => (((with_reducible show wpAny _ _ (truthy (Value.str (S _) _)) _ _ _); refine r_truthy (by walk_at "S_fit") ?_))
  k_with "exec For Name Name cons nil" => ((k_here; (rename Fr _ _ _ _ => Z6Xa); (with_unfolding_all refine' For_invVF Z6Xa ?Q6Xa ?Q6Xb ?_; (case Q6Xa => exact rfl); (case Q6Xb => exact rfl); k_whole)))
  k_with "pyIter ref" => (((with_reducible show wpAny _ _ (pyIter (Value.ref _)) (fun it s₂ => LoopAtV _ _ _ _ _ _ _ _ _ it s₂) _ _); k_listUnr))
  k_with "S_enter" => ((refine' code_defG (news := []) ?Q8Xa ?Q8Xb ?Q8Xc ?Q8Xd ?Q8Xe ?Q8Xf ?Q8Xg ?Q8Xh ?Q8Xi ?Q8Xj ?Q8Xk ?Q8Xl ?Q8Xm ?_ ?Q8Xn ?Q8Xo ?Q8Xp ?Q8Xq; (case Q8Xf => exact rfl); (case Q8Xg => exact rfl); (case Q8Xh => assumption); (case Q8Xa => k_asm); (case Q8Xb => k_asm); (case Q8Xc => k_asm); (case Q8Xd => exact News.nil); (case Q8Xe => k_asm); (case Q8Xi => k_is); (case Q8Xj => k_is); (case Q8Xk => ktr_room); (case Q8Xl => exact BindsTo.of_eq rfl); (case Q8Xq => decide); (case Q8Xm => exact locs rfl); (case Q8Xn => exact rfl); (case Q8Xo => exact rfl); (case Q8Xp => exact rfl); k_whole; intro Z8Xh Z8Xd Z8Xi Z8Xc Z8Xb Z8Xe Z8Xa Z8Xg Z8Xf Z8Xj; (try dsimp only [List.map_nil] at Z8Xj); (try dsimp only); (try k_lift Z8Xa); (try k_fold)))
  k_with "S_look" => (first | exact rfl | assumption | exact (if_pos rfl) | (refine (if_neg (by decide)).trans ?_; walk_at "S_look"))
  k_with "eval Name" => ((k_here; k_dflt (refine' nameX_L ?QaXa ?QaXb ?_ ?QaXc ?QaXd; (case QaXa => k_asm); (case QaXc => rfl); (case QaXd => rfl); (case QaXb => walk_at "S_look"); k_whole)))
  k_with "S_lit" => (first | (with_reducible exact lit_dots) | (with_reducible rfl))
  k_with "S_nn" => (first | omega | ((simp only [List.length_append, List.length_cons, List.length_nil, List.length_take, List.length_drop, dots] at *); omega))
  k_with "binaryOp Add str str" => (((with_reducible show wpAny _ _ (binaryOp _ (Value.str _ _) (Value.str _ _)) _ _ _); k_dflt (refine r_add (by walk_at "S_lit") (by walk_at "S_lit") (by walk_at "S_fit") ?_); intro _ _))
  k_with "subscriptTail Name Slice str ref" => (((with_reducible show wpAny _ _ (subscriptTail _ (Expr.Slice none (some _) none _) (Value.str (S _) _) _) _ _ _); (with_reducible rename Fr _ _ _ _ => ZeXa); (with_reducible rename News _ _ _ _ => ZeXb); (refine r_sliceTo (s := ⟨_, _, _, _, _⟩) ZeXa ZeXb (by walk_at "S_nn") (by walk_at "S_fit") ?_); intro _ _ _ _ _))
  k_with "subscriptTail Name Slice str ref" => (((with_reducible show wpAny _ _ (subscriptTail _ (Expr.Slice (some _) none none _) (Value.str (S _) _) _) _ _ _); (with_reducible rename Fr _ _ _ _ => ZfXa); (with_reducible rename News _ _ _ _ => ZfXb); (refine r_sliceFrom (s := ⟨_, _, _, _, _⟩) ZfXa ZfXb (by walk_at "S_nn") (by walk_at "S_fit") ?_); intro _ _ _ _ _))
  k_with "exec For Name Call cons nil" => ((k_here; (rename Fr _ _ _ _ => ZgXa); (with_unfolding_all refine' For_invVF ZgXa ?QgXa ?QgXb ?_; (case QgXa => exact rfl); (case QgXb => exact rfl); k_whole)))
  k_with "S_use" => ((refine' pcon_use ?QhXa ?QhXb ?QhXc ?QhXd ?QhXe ?QhXf ?QhXg ?QhXh ?_; (case QhXb => k_asm); (case QhXc => k_asm); (case QhXd => k_asm); (case QhXe => k_asm); (case QhXa => walk_at "S_con"); (case QhXf => first | exact rfl | assumption); (case QhXg => ktr_room); (case QhXh => ktr_units)))
  k_with "call ref" => ((k_here; k_dflt (walk_at "S_use"); intro ZiXf ZiXd ZiXe ZiXb; (have ZiXa := Fr.keeps (by k_asm) ZiXb); (have ZiXc := News.grown (by k_asm) ZiXb); walk_at "S_back" <;> ((try dsimp only); (try k_fold))))
  k_with "pyIter ref" => (k_extra "S_loop")
  k_with "S_bool" => ((intro ZkXa; (rcases bool_or ZkXa with ⟨R8, R7⟩ | ⟨R8, R7⟩) <;> subst R7))
  k_with "call builtin:list.append" => ((k_here; (with_reducible show wpAny _ _ (call (Value.builtin _) [Value.ref _, _]) _ _ _); k_dflt (refine' append_K ?QlXa ?QlXb ?QlXc ?_ ?QlXd; (case QlXa => k_asm); (case QlXb => k_asm); (case QlXc => k_upd); (case QlXd => exact size_ok (k := 100000) (by omega) (by decide)); k_whole); intro ZlXc ZlXa ZlXb; (try k_sweep)))
  k_with "m_k_room" => (ktr_room)
  k_with "m_k_units" => (ktr_units)
  k_with "S_enterM" => ((refine' code_defG ?QoXa ?QoXb ?QoXc ?QoXd ?QoXe ?QoXf ?QoXg ?QoXh ?QoXi ?QoXj ?QoXk ?QoXl ?QoXm ?_ ?QoXn ?QoXo ?QoXp ?QoXq; (case QoXf => exact rfl); (case QoXg => exact rfl); (case QoXh => assumption); (case QoXa => k_asm); (case QoXb => k_asm); (case QoXc => k_asm); (case QoXd => k_asm); (case QoXe => k_asm); (case QoXi => k_is); (case QoXj => k_is); (case QoXk => ktr_room); (case QoXl => exact BindsTo.of_eq rfl); (case QoXq => decide); (case QoXm => exact locs rfl); (case QoXn => exact rfl); (case QoXo => exact rfl); (case QoXp => exact rfl); k_whole; intro ZoXh ZoXd ZoXi ZoXc ZoXb ZoXe ZoXa ZoXg ZoXf ZoXj; (try dsimp only [List.map_nil, List.map_cons] at ZoXj); (try dsimp only); (try k_lift ZoXa); (try k_fold)))
  k_with "callWith" => (((with_reducible show wpAny _ _ (callWith _ (Prod.fst _) (Prod.snd _) _ _) _ _ _); dsimp only))
  k_with "S_int" => (first | omega | decide | ((simp only [List.length_cons, List.length_nil, decide_eq_true_eq, decide_eq_false_iff_not, beq_iff_eq, beq_eq_false_iff_ne, ne_eq, Int.not_lt, Int.not_le] at *); omega))
  k_with "binaryOp FloorDiv int int" => (((with_reducible show wpAny _ _ (binaryOp _ (Value.int _ _) (Value.int _ _)) _ _ _); k_dflt (refine r_fdiv (by walk_at "S_int") (by walk_at "S_int") ?_); intro _ _))
  k_with "binaryOp Mod int int" => (((with_reducible show wpAny _ _ (binaryOp _ (Value.int _ _) (Value.int _ _)) _ _ _); k_dflt (refine r_fmod (by walk_at "S_int") ?_); intro _ _))
  k_with "S_item" => (((with_reducible show wpAny _ _ (subscriptTail _ _ (Value.str (S _) _) (Value.int _ _)) _ _ _); k_dflt (refine r_item (by walk_at "S_int") (by walk_at "S_int") (by walk_at "S_fit") ?_); intro _ _))
  k_with "subscriptTail Name BinOp str int" => (walk_at "S_item")
  k_with "subscriptTail Name Constant str int" => (walk_at "S_item")
  k_with "subscriptTail Name Name str int" => (walk_at "S_item")
  k_with "S_lit" => (first | (with_reducible exact lit_dots) | (with_reducible exact lit_empty) | (with_reducible exact lit34) | (with_reducible exact lit9234) | (with_reducible exact lit92) | (with_reducible exact lit10) | (with_reducible exact lit38) | (with_reducible exact lit59) | (with_reducible rfl))
  k_with "call builtin:str.replace" => (((with_reducible show wpAny _ _ (call (Value.builtin _) [Value.str (S _) _, Value.str _ _, Value.str _ _]) _ _ _); k_dflt (refine r_replace (by walk_at "S_lit") (by walk_at "S_lit") (by decide) (Nat.succ_ne_zero _) (Nat.succ_ne_zero _) (Nat.ne_of_lt (Nat.lt_succ_self _)) (by decide) (by walk_at "S_nn") ?_); intro _ _))
  k_with "call builtin:str.join" => ((k_here; (with_reducible show wpAny _ _ (call (Value.builtin _) [Value.str _ _, Value.ref _]) _ _ _); k_dflt (refine r_join (by walk_at "S_lit") (by walk_at "S_isl") (by walk_at "S_strs") (by walk_at "S_sum") ?_); intro _ _))
  k_with "S_isl" => (first | assumption | exact ⟨LCg.lst _, News.get (by k_asm) (by k_mem), rfl, _, rfl⟩ | is_list)
  k_with "S_strs" => (first | exact StrsAre.nil | assumption | (exact CharsAre.strs (by assumption)))
  k_with "binaryOp Mult str int" => (((with_reducible show wpAny _ _ (binaryOp _ (Value.str (S _) _) (Value.int _ _)) _ _ _); k_dflt (refine r_mul (by walk_at "S_int") (by walk_at "S_int") (by walk_at "S_nn") ?_); intro _ _))
  k_with "S_enterC" => ((refine' code_defCG ?Q13Xa ?Q13Xb ?Q13Xc ?Q13Xd ?Q13Xe ?Q13Xf ?Q13Xg ?Q13Xh ?Q13Xi ?Q13Xj ?Q13Xk ?Q13Xl ?Q13Xm ?Q13Xn ?_ ?Q13Xo ?Q13Xp ?Q13Xq; (case Q13Xf => exact rfl); (case Q13Xg => exact rfl); (case Q13Xh => assumption); (case Q13Xa => k_asm); (case Q13Xb => k_asm); (case Q13Xc => k_asm); (case Q13Xd => k_asm); (case Q13Xe => k_asm); (case Q13Xi => k_is); (case Q13Xj => k_is); (case Q13Xk => ktr_room); (case Q13Xl => exact BindsTo.of_eq rfl); (case Q13Xm => rfl); (case Q13Xn => decide); (case Q13Xo => exact rfl); (case Q13Xp => exact rfl); (case Q13Xq => exact rfl); k_whole; intro Z13Xj Z13Xd Z13Xk Z13Xo Z13Xi Z13Xc Z13Xb Z13Xe Z13Xh Z13Xa Z13Xg Z13Xf Z13Xm Z13Xl Z13Xn; (try dsimp only [List.map_nil, List.map_cons] at Z13Xl); (try k_lt Z13Xm); k_cells Z13Xh; (try simp only [List.cons_append, List.nil_append] at Z13Xe); (try dsimp only); (try k_lift Z13Xa); (try k_fold)))
  k_with "S_lcs" => ((k_here; k_dflt (refine ListComp_S (_F₀ := by k_asm) (by rfl) (by decide) (by rfl) (by decide) (by rfl) ?_)))
  k_with "S_lit" => (first | (with_reducible exact lit_dots) | (with_reducible exact lit_empty) | (with_reducible exact lit34) | (with_reducible exact lit9234) | (with_reducible exact lit92) | (with_reducible exact lit10) | (with_reducible exact lit38) | (with_reducible exact lit59) | (with_reducible exact lit60) | (with_reducible exact lit62) | (with_reducible exact lit13) | (with_reducible exact lit9) | (with_reducible exact litamp) | (with_reducible exact litlt) | (with_reducible exact litgt) | (with_reducible exact litquot) | (with_reducible rfl))
  k_with "S_sum" => (assumption)
  k_with "eval ListComp" => ((k_here; (with_reducible show wpAny _ _ (eval (PySem.Expr.ListComp _ [⟨PySem.Expr.Tuple _ _ _, _, [], 0⟩] _ _) _) _ _ _); k_dflt (refine ListComp_E (_F₀ := by k_asm) (by rfl) (by decide) (by rfl) (by decide) (by rfl) (by rfl) (by decide) ?_)))
  k_with "eval ListComp" => ((k_here; (with_reducible show wpAny _ _ (eval (PySem.Expr.ListComp _ [⟨PySem.Expr.Name _ _, _, [], 0⟩] _ _) _) _ _ _); k_dflt (refine LCg.ListComp_U (F₀ := by k_asm) (by rfl) (by decide) (by rfl) (by decide) (by rfl) ?_)))
  k_with "call type:enumerate" => (refine stop9 ?_)
  k_with "exec Assign cons ListComp" => ((k_here; k_dflt (refine wpAny_Assign_Name ?_ (by rfl))))
  k_with "CompSrc" => (refine stop9 ?_)
  k_with "CompEnd" => (refine stop9 ?_)
  k_with "FinE" => (((unfold LCg.FinE); intro Z1dXa Z1dXd Z1dXf Z1dXb Z1dXc Z1dXe; (try simp only [List.nil_append, List.cons_append] at Z1dXc); (try dsimp only)))
  k_with "FinA" => (((unfold LCg.FinA); intro Z1eXa Z1eXd Z1eXf Z1eXb Z1eXc Z1eXe; (try simp only [List.nil_append, List.cons_append] at Z1eXc); (try dsimp only)))
  k_with "m_k_ne" => (first | (refine neN ?_; (try dsimp only); omega) | exact off1_ne (by assumption) (by k_mem) | exact Ne.symm (off1_ne (by assumption) (by k_mem)))
  k_with "eval ListComp" => ((k_here; (with_reducible show wpAny _ _ (eval (PySem.Expr.ListComp _ [⟨PySem.Expr.Name _ _, _, [_], 0⟩] _ _) _) _ _ _); k_dflt (refine LCt.ListComp_T (F₀ := by k_asm) (by rfl) (by decide) (by rfl) (by decide) (by rfl) ?_)))
  k_with "CompSrcT" => (refine stop9 ?_)
  k_with "S_laps" => ((intro Z1iXf; obtain ⟨Z1iXa, Z1iXj, Z1iXi, Z1iXh, Z1iXc, Z1iXd, Z1iXe⟩ := Z1iXf; subst Z1iXh; (obtain ⟨Z1iXb, Z1iXg⟩ := news_add (by k_asm) (by k_asm) (by k_asm) Z1iXc Z1iXd)))
  k_with "S_il" => (((rename News _ _ _ _ => Z1jXa); exact ⟨_, News.get Z1jXa (by k_mem), rfl, _, rfl⟩))
  k_with "execs cons" => (((have _sf : StopH := by assumption); clear _sf; refine stop9 ?_))
  k_with "compareOp NotEq ref ref" => ((k_here; (with_reducible show wpAny _ _ (compareOp CmpOp.NotEq (Value.ref _) (Value.ref _)) _ _ _); k_dflt (refine' r_ne_same ?Q1lXa ?Q1lXb ?Q1lXc ?Q1lXd ?Q1lXe ?Q1lXf ?_; (case Q1lXa => walk_at "S_isl"); (case Q1lXb => walk_at "S_isl"); (case Q1lXc => exact .cons _ _ (.cons _ _ (.cons _ _ .nil))); (case Q1lXd => exact .cons _ _ (.cons _ _ (.cons _ _ .nil))); (case Q1lXe => assumption); (case Q1lXf => ke_room))))
  k_with "compareOp NotEq str str" => ((k_here; k_dflt (refine r_neS (b := false) (by rfl) ?_)))
  k_with "compareOp NotEq int int" => ((k_here; k_dflt (refine r_neI (by first | rfl | assumption | omega) ?_)))
  k_with "call builtin:str.count" => ((k_here; k_dflt (refine r_count (by walk_at "S_lit") ?_); intro _ _))
  trivial
theorem main12 {w : World} {p loose mean mg mb} {dp un : Nat} {gd : Option (List Code)} {L fa : Addr} {ccd : Value} {outer : List Env} {A₀ : Around} {base g : Heap} {m : PySem.Str → Option Value} {s : Shared} {Q : Flow → Shared → Prop} {E : Value → Shared → Prop}
    (o1 o2 o3 o4 o5 o6 o7 : Obj) (Dh G : Addr) (a0 a1 a2 : Int) (t0 t1 t2 : Tok) (q0 : 0 ≤ a0) (q1 : 0 ≤ a1) (q2 : 0 ≤ a2) (fw : Nat) (wr : List Nat → List Nat) (mk f0 f1 f2 : List Nat) (tm u0 u1 u2 : Tok) (hwr : (fw, wr, mk, f0, f1, f2) ∈ wrT) (d2 : o2.data = .cell (some (.ref Dh))) (d3 : o3.data = .cell (some (.str (S mk) tm))) (d4 : o4.data = .cell (some (.ref G))) (txt : List Nat) (hx9 : txt.length ≤ 9) (hx1 : txt ≠ []) (tt : Tok) (d6 : o6.data = .cell (some (.str (S txt) tt))) (Dl : Addr) (pl : List Value) (hpl2 : IntsAre pl (nI (lapsL txt))) (d7 : o7.data = .cell (some (.ref Dl))) (lh : @LT.lt Nat _ (L + 1 + 1 + 1 + 1 + 1 + 1 + 1) Dh) (lg : @LT.lt Nat _ Dh G) (x y z : Nat) (ts : Tok) (rx : R8 x) (ry : R8 y) (rz : R8 z) (hxy : x ≠ y) (hsg : m (PySem.Str.ofString "signs") = some (.str (S [x, y, z]) ts)) (hwn : m (PySem.Str.ofString "writer") = some (.ref fw)) (Dp : Addr) (p0 p1 p2 : List Nat) (v0 v1 v2 : Tok) (pc0 : Pc x y z p0) (pc1 : Pc x y z p1) (pc2 : Pc x y z p2) (pn0 : p0 ≠ []) (lp : @LT.lt Nat _ G Dp) (hpn : m (PySem.Str.ofString "pieces") = some (.ref Dp)) (w0 w1 w2 : Int) (tp : Tok) (hpg : m (PySem.Str.ofString "page") = some (.str (S (pageL p0 p1 p2 w0 w1 w2)) tp)) (r : RP) (ok : r.Ok) (kp : Nat) (ps : Array Value) (lr : @LT.lt Nat _ Dp r.aC) (d5 : o5.data = .cell (some (.ref r.aR))) (tl : Tok) (lf : List Value) (kl : Nat) (Hd : Addr) (b0 b1 b2 : Tok) (hhd : m (PySem.Str.ofString "heard") = some (.ref Hd)) (tr : Tok) (hrs : m (PySem.Str.ofString "rest") = some (.str (S []) tr)) (Dr : Addr) (hrm : m (PySem.Str.ofString "room") = some (.ref Dr)) (Da : Addr) (hah : m (PySem.Str.ofString "ahead") = some (.ref Da))
    (hB : Below A₀ base outer g) (hF : Fr g L s.heap m) (hX : (hd.heap_1 w.params).In g) (hT : Top p loose mean mg mb g) (hr : dp + 30 < recursionLimit) (hu : un + 16 * 30 < cLine) (hC : CodeHd base 111 107) (h7 : @LT.lt Nat _ 107 L) (hN : News g L s.heap ((Da, lst []) :: (Dr, lst []) :: ((Dl, lst pl) :: ((Hd, listOf [.str (S p0) b0, .str (S p1) b1, .str (S p2) b2].toArray 3) :: [(Dp, listOf [.str (S p0) v0, .str (S p1) v1, .str (S p2) v2].toArray 0), (G, tupObj [.str (S f0) u0, .str (S f1) u1, .str (S f2) u2]), (Dh, listOf [.int a0 t0, .int a1 t1, .int a2 t2].toArray 3), (L + 1 + 1 + 1 + 1 + 1 + 1 + 1, o7), (L + 1 + 1 + 1 + 1 + 1 + 1, o6), (L + 1 + 1 + 1 + 1 + 1, o5), (L + 1 + 1 + 1 + 1, o4), (L + 1 + 1 + 1, o3), (L + 1 + 1, o2), (L + 1, o1), (r.aP, listOf (([] : List Value)).toArray kp), (r.aR, instObj 59 r.dR), (r.dR, dictOf [ent w.params "lineno" r.t1 (.int ((1 + ((pageL p0 p1 p2 w0 w1 w2).count 10 : Nat) : Int)) tl), ent w.params "instream" r.t2 (.ref r.aS), ent w.params "whitespace" r.t3 (.str wsT r.t4), ent w.params "pushback" r.t5 (.ref r.aP)] 4), (r.aF, kla_obj (PySem.Str.ofString "<lambda>") r.q (lamArgs 154) (lamBody 154) lamScope [(PySem.Str.ofString "left", r.aC)] r.pm r.cF r.ctv), (r.cF, r.oc), (r.aP2, listOf #[] 0), (r.aS, instObj 59 r.dS), (r.dS, dictOf [ent w.params "lineno" r.s1 (.int 1 r.s0), ent w.params "instream" r.s2 .none, ent w.params "whitespace" r.s3 (.str wsT r.s4), ent w.params "pushback" r.s5 (.ref r.aP2), ent w.params "read" r.s6 (.ref r.aF)] 5), (r.aL, listOf (lf).toArray kl), (r.aC, r.oC), (107, tabObj ps)]))))
    (next : ∀ (h' : Heap) (tk' : Nat), Fr g L h' m → News g L h' ((Da, lst []) :: (Dr, lst []) :: ((Dl, lst pl) :: ((Hd, listOf [.str (S p0) b0, .str (S p1) b1, .str (S p2) b2].toArray 3) :: [(Dp, listOf [.str (S p0) v0, .str (S p1) v1, .str (S p2) v2].toArray 0), (G, tupObj [.str (S f0) u0, .str (S f1) u1, .str (S f2) u2]), (Dh, listOf [.int a0 t0, .int a1 t1, .int a2 t2].toArray 3), (L + 1 + 1 + 1 + 1 + 1 + 1 + 1, o7), (L + 1 + 1 + 1 + 1 + 1 + 1, o6), (L + 1 + 1 + 1 + 1 + 1, o5), (L + 1 + 1 + 1 + 1, o4), (L + 1 + 1 + 1, o3), (L + 1 + 1, o2), (L + 1, o1), (r.aP, listOf (([] : List Value)).toArray kp), (r.aR, instObj 59 r.dR), (r.dR, dictOf [ent w.params "lineno" r.t1 (.int ((1 + ((pageL p0 p1 p2 w0 w1 w2).count 10 : Nat) : Int)) tl), ent w.params "instream" r.t2 (.ref r.aS), ent w.params "whitespace" r.t3 (.str wsT r.t4), ent w.params "pushback" r.t5 (.ref r.aP)] 4), (r.aF, kla_obj (PySem.Str.ofString "<lambda>") r.q (lamArgs 154) (lamBody 154) lamScope [(PySem.Str.ofString "left", r.aC)] r.pm r.cF r.ctv), (r.cF, r.oc), (r.aP2, listOf #[] 0), (r.aS, instObj 59 r.dS), (r.dS, dictOf [ent w.params "lineno" r.s1 (.int 1 r.s0), ent w.params "instream" r.s2 .none, ent w.params "whitespace" r.s3 (.str wsT r.s4), ent w.params "pushback" r.s5 (.ref r.aP2), ent w.params "read" r.s6 (.ref r.aF)] 5), (r.aL, listOf (lf).toArray kl), (r.aC, r.oC), (107, tabObj ps)]))) →
      wpAny (model Challenge.pw_sc0056_01 w) (lawA dp un gd L fa ccd outer) (execs (lawBody.drop 13) (lawEnv L fa ccd)) Q E { s with heap := h', toks := tk' }) :
    wpAny (model Challenge.pw_sc0056_01 w) (lawA dp un gd L fa ccd outer) (execs (lawBody.drop 12) (lawEnv L fa ccd)) Q E s := by
  have hok : Ok8 [p0, p1, p2] := ok8_ps (pc_r8 rx ry rz pc0) (pc_r8 rx ry rz pc1) (pc_r8 rx ry rz pc2)
  obtain ⟨hp, gns, dr, tk, os⟩ := s
  conv in (List.drop _ lawBody) => whnf
  (try clear sfl)
  walk1
  ((try clear sfl); have sfl : StopH := trivial)
  k_steps
  refine Stop9.go ?_
  rename Fr _ _ _ _ => F6
  rename News _ _ _ _ => N6
  exact next _ _ F6 N6
end
section
example : True := by
  k_with_none
  w_top off
  k_with "olt" => (first | assumption | ((fail_if_success refine oM ?_); refine oL ?_; k_extra "ole") | k_extra "olh")
  k_with "olh" => (refine oH (by assumption) (by k_extra "ole"))
  k_with "ole" => (first | exact Nat.le_refl _ | assumption | exact oB | ((first | refine oA ?_ | refine oA2 ?_ | refine oA3 ?_); k_extra "ocl") | (refine oS ?_; k_extra "ole") | (refine Nat.le_of_lt ?_; (first | assumption | k_extra "olh")) | exact oE)
  k_with "olt2" => (first | k_extra "oas" | ((fail_if_success refine oM ?_); refine oL ?_; k_extra "ole2") | k_extra "olh2")
  k_with "olh2" => (refine oH (by k_extra "oas") (by k_extra "ole2"))
  k_with "ole2" => (first | exact Nat.le_refl _ | k_extra "oas" | exact oB | ((first | refine oA ?_ | refine oA2 ?_ | refine oA3 ?_); k_extra "ocl") | (refine oS ?_; k_extra "ole2") | (refine Nat.le_of_lt ?_; (first | k_extra "oas" | k_extra "olh2")) | exact oE)
  k_with "opu" => (first | exact oB | exact Nat.le_refl _ | (refine oS ?_; k_extra "opu"))
  k_with "olt0" => (refine oL ?_; k_extra "opu")
  k_with "one" => (first | (refine Nat.ne_of_gt ?_; (fail_if_success refine oM ?_); k_extra "olt0") | (refine Nat.ne_of_lt ?_; (fail_if_success refine oM ?_); k_extra "olt0") | exact Ne.symm (by assumption) | (refine Nat.ne_of_gt ?_; (fail_if_success refine oM ?_); k_extra "oas") | (refine Nat.ne_of_lt ?_; (fail_if_success refine oM ?_); k_extra "oas") | (refine Nat.ne_of_gt ?_; (fail_if_success refine oM ?_); k_extra "odd") | (refine Nat.ne_of_lt ?_; (fail_if_success refine oM ?_); k_extra "odd") | (refine Nat.ne_of_gt ?_; (fail_if_success refine oM ?_); k_extra "olt") | (refine Nat.ne_of_lt ?_; (fail_if_success refine oM ?_); k_extra "olt") | (refine Nat.ne_of_gt ?_; (fail_if_success refine oM ?_); k_extra "olt2") | (refine Nat.ne_of_lt ?_; (fail_if_success refine oM ?_); k_extra "olt2") | decide)
  k_with "ol1" => (first | ((fail_if_success refine oM ?_); first | k_extra "oas" | k_extra "olt0" | k_extra "odd" | k_extra "olt" | k_extra "olt2") | k_extra "ocl" | exact oT0 | exact oT5)
  k_with "oe1" => (first | ((fail_if_success refine oN ?_); first | k_extra "oas" | k_extra "opu" | k_extra "ole" | k_extra "ole2" | exact oE (by k_extra "oas")) | k_extra "ocl" | k_extra "olit" | k_extra "oas")
  k_with "olit" => (first | exact oT4 | exact oP | exact oP2 | exact oT1 | exact oT2 | exact oT3 | exact oQ5 | exact oQ1 | exact oQ2 | exact oQ3 | exact oQ4 | exact oQ6 | exact oD)
  k_with "ocl" => (with_unfolding_all exact Nat.le_of_ble_eq_true rfl)
  k_with "oas" => (first | assumption | exact oa1 | exact ob1 | exact oa2 | exact ob2 | exact oa3 | exact ob3 | exact oa4 | exact ob4 | exact oa5 | exact ob5 | exact oa6 | exact ob6 | exact oa7 | exact ob7)
  k_with "odd" => (first | exact oa1 ob7 | exact oa2 ob7 | exact oa3 ob7 | exact oa4 ob7 | exact oa5 ob7 | exact oa6 ob7 | exact oa7 ob7 | exact oa1 (ob7 ob7) | exact oa2 (ob7 ob7) | exact oa3 (ob7 ob7) | exact oa4 (ob7 ob7) | exact oa5 (ob7 ob7) | exact oa6 (ob7 ob7) | exact oa7 (ob7 ob7) | exact ob1 ob7 | exact ob2 ob7 | exact ob3 ob7 | exact ob4 ob7 | exact ob5 ob7 | exact ob6 ob7 | exact ob7 ob7)
  k_with "oin" => (first | decide | exact oI1 | exact oI3 | exact oI2 (by k_extra "oas"))
  k_with "om" => (with_reducible first | (first | assumption | ((fail_if_success fail_if_success refine oXn ?_); k_extra "one") | ((fail_if_success fail_if_success refine oXl ?_); k_extra "ol1") | ((fail_if_success fail_if_success refine oXe ?_); k_extra "oe1") | k_extra "oin") | fail)
  k_with "S_fit" => (first | omega | ((simp only [S_len, List.length_append, List.length_cons, List.length_nil, List.length_take, List.length_drop, dots, PySem.sizeLine_eq]); omega))
  k_with "call builtin:len" => (((with_reducible show wpAny _ _ (call (Value.builtin "len") [Value.str (S _) _]) _ _ _); refine r_len (by walk_at "S_fit") ?_))
  k_with "call builtin:str.startswith" => (((with_reducible show wpAny _ _ (call (Value.builtin "str.startswith") [Value.str (S _) _, Value.str (S _) _]) _ _ _); refine r_starts ?_))
  k_with "call builtin:str.endswith" => (((with_reducible show wpAny _ _ (call (Value.builtin "str.endswith") [Value.str (S _) _, Value.str (S _) _]) _ _ _); refine r_ends ?_))
  k_with "truthy str" => (((with_reducible show wpAny _ _ (truthy (Value.str (S _) _)) _ _ _); refine r_truthy (by walk_at "S_fit") ?_))
  k_with "exec For Name Name cons nil" => ((k_here; (rename Fr _ _ _ _ => Z6Xa); (with_unfolding_all refine' For_invVF Z6Xa ?Q6Xa ?Q6Xb ?_; (case Q6Xa => exact rfl); (case Q6Xb => exact rfl); k_whole)))
  k_with "pyIter ref" => (((with_reducible show wpAny _ _ (pyIter (Value.ref _)) (fun it s₂ => LoopAtV _ _ _ _ _ _ _ _ _ it s₂) _ _); k_listUnr))
  k_with "S_enter" => ((refine' code_defG (news := []) ?Q8Xa ?Q8Xb ?Q8Xc ?Q8Xd ?Q8Xe ?Q8Xf ?Q8Xg ?Q8Xh ?Q8Xi ?Q8Xj ?Q8Xk ?Q8Xl ?Q8Xm ?_ ?Q8Xn ?Q8Xo ?Q8Xp ?Q8Xq; (case Q8Xf => exact rfl); (case Q8Xg => exact rfl); (case Q8Xh => assumption); (case Q8Xa => k_asm); (case Q8Xb => k_asm); (case Q8Xc => k_asm); (case Q8Xd => exact News.nil); (case Q8Xe => k_asm); (case Q8Xi => k_is); (case Q8Xj => k_is); (case Q8Xk => ktr_room); (case Q8Xl => exact BindsTo.of_eq rfl); (case Q8Xq => decide); (case Q8Xm => exact locs rfl); (case Q8Xn => exact rfl); (case Q8Xo => exact rfl); (case Q8Xp => exact rfl); k_whole; intro Z8Xh Z8Xd Z8Xi Z8Xc Z8Xb Z8Xe Z8Xa Z8Xg Z8Xf Z8Xj; (try dsimp only [List.map_nil] at Z8Xj); (try dsimp only); (try k_lift Z8Xa); (try k_fold)))
  k_with "S_look" => (first | exact rfl | assumption | exact (if_pos rfl) | (refine (if_neg (by decide)).trans ?_; walk_at "S_look"))
  k_with "eval Name" => ((k_here; k_dflt (refine' nameX_L ?QaXa ?QaXb ?_ ?QaXc ?QaXd; (case QaXa => k_asm); (case QaXc => rfl); (case QaXd => rfl); (case QaXb => walk_at "S_look"); k_whole)))
  k_with "S_lit" => (first | (with_reducible exact lit_dots) | (with_reducible rfl))
  k_with "S_nn" => (first | omega | ((simp only [List.length_append, List.length_cons, List.length_nil, List.length_take, List.length_drop, dots] at *); omega))
  k_with "binaryOp Add str str" => (((with_reducible show wpAny _ _ (binaryOp _ (Value.str _ _) (Value.str _ _)) _ _ _); k_dflt (refine r_add (by walk_at "S_lit") (by walk_at "S_lit") (by walk_at "S_fit") ?_); intro _ _))
  k_with "subscriptTail Name Slice str ref" => (((with_reducible show wpAny _ _ (subscriptTail _ (Expr.Slice none (some _) none _) (Value.str (S _) _) _) _ _ _); (with_reducible rename Fr _ _ _ _ => ZeXa); (with_reducible rename News _ _ _ _ => ZeXb); (refine r_sliceTo (s := ⟨_, _, _, _, _⟩) ZeXa ZeXb (by walk_at "S_nn") (by walk_at "S_fit") ?_); intro _ _ _ _ _))
  k_with "subscriptTail Name Slice str ref" => (((with_reducible show wpAny _ _ (subscriptTail _ (Expr.Slice (some _) none none _) (Value.str (S _) _) _) _ _ _); (with_reducible rename Fr _ _ _ _ => ZfXa); (with_reducible rename News _ _ _ _ => ZfXb); (refine r_sliceFrom (s := ⟨_, _, _, _, _⟩) ZfXa ZfXb (by walk_at "S_nn") (by walk_at "S_fit") ?_); intro _ _ _ _ _))
  k_with "exec For Name Call cons nil" => ((k_here; (rename Fr _ _ _ _ => ZgXa); (with_unfolding_all refine' For_invVF ZgXa ?QgXa ?QgXb ?_; (case QgXa => exact rfl); (case QgXb => exact rfl); k_whole)))
  k_with "S_use" => ((refine' pcon_use ?QhXa ?QhXb ?QhXc ?QhXd ?QhXe ?QhXf ?QhXg ?QhXh ?_; (case QhXb => k_asm); (case QhXc => k_asm); (case QhXd => k_asm); (case QhXe => k_asm); (case QhXa => walk_at "S_con"); (case QhXf => first | exact rfl | assumption); (case QhXg => ktr_room); (case QhXh => ktr_units)))
  k_with "call ref" => ((k_here; k_dflt (walk_at "S_use"); intro ZiXf ZiXd ZiXe ZiXb; (have ZiXa := Fr.keeps (by k_asm) ZiXb); (have ZiXc := News.grown (by k_asm) ZiXb); walk_at "S_back" <;> ((try dsimp only); (try k_fold))))
  k_with "pyIter ref" => (k_extra "S_loop")
  k_with "S_bool" => ((intro ZkXa; (rcases bool_or ZkXa with ⟨R8, R7⟩ | ⟨R8, R7⟩) <;> subst R7))
  k_with "call builtin:list.append" => ((k_here; (with_reducible show wpAny _ _ (call (Value.builtin _) [Value.ref _, _]) _ _ _); k_dflt (refine' append_K ?QlXa ?QlXb ?QlXc ?_ ?QlXd; (case QlXa => k_asm); (case QlXb => k_asm); (case QlXc => k_upd); (case QlXd => exact size_ok (k := 100000) (by omega) (by decide)); k_whole); intro ZlXc ZlXa ZlXb; (try k_sweep)))
  k_with "m_k_room" => (ktr_room)
  k_with "m_k_units" => (ktr_units)
  k_with "S_enterM" => ((refine' code_defG ?QoXa ?QoXb ?QoXc ?QoXd ?QoXe ?QoXf ?QoXg ?QoXh ?QoXi ?QoXj ?QoXk ?QoXl ?QoXm ?_ ?QoXn ?QoXo ?QoXp ?QoXq; (case QoXf => exact rfl); (case QoXg => exact rfl); (case QoXh => assumption); (case QoXa => k_asm); (case QoXb => k_asm); (case QoXc => k_asm); (case QoXd => k_asm); (case QoXe => k_asm); (case QoXi => k_is); (case QoXj => k_is); (case QoXk => ktr_room); (case QoXl => exact BindsTo.of_eq rfl); (case QoXq => decide); (case QoXm => exact locs rfl); (case QoXn => exact rfl); (case QoXo => exact rfl); (case QoXp => exact rfl); k_whole; intro ZoXh ZoXd ZoXi ZoXc ZoXb ZoXe ZoXa ZoXg ZoXf ZoXj; (try dsimp only [List.map_nil, List.map_cons] at ZoXj); (try dsimp only); (try k_lift ZoXa); (try k_fold)))
  k_with "callWith" => (((with_reducible show wpAny _ _ (callWith _ (Prod.fst _) (Prod.snd _) _ _) _ _ _); dsimp only))
  k_with "S_int" => (first | omega | decide | ((simp only [List.length_cons, List.length_nil, decide_eq_true_eq, decide_eq_false_iff_not, beq_iff_eq, beq_eq_false_iff_ne, ne_eq, Int.not_lt, Int.not_le] at *); omega))
  k_with "binaryOp FloorDiv int int" => (((with_reducible show wpAny _ _ (binaryOp _ (Value.int _ _) (Value.int _ _)) _ _ _); k_dflt (refine r_fdiv (by walk_at "S_int") (by walk_at "S_int") ?_); intro _ _))
  k_with "binaryOp Mod int int" => (((with_reducible show wpAny _ _ (binaryOp _ (Value.int _ _) (Value.int _ _)) _ _ _); k_dflt (refine r_fmod (by walk_at "S_int") ?_); intro _ _))
  k_with "S_item" => (((with_reducible show wpAny _ _ (subscriptTail _ _ (Value.str (S _) _) (Value.int _ _)) _ _ _); k_dflt (refine r_item (by walk_at "S_int") (by walk_at "S_int") (by walk_at "S_fit") ?_); intro _ _))
  k_with "subscriptTail Name BinOp str int" => (walk_at "S_item")
  k_with "subscriptTail Name Constant str int" => (walk_at "S_item")
  k_with "subscriptTail Name Name str int" => (walk_at "S_item")
  k_with "S_lit" => (first | (with_reducible exact lit_dots) | (with_reducible exact lit_empty) | (with_reducible exact lit34) | (with_reducible exact lit9234) | (with_reducible exact lit92) | (with_reducible exact lit10) | (with_reducible exact lit38) | (with_reducible exact lit59) | (with_reducible rfl))
  k_with "call builtin:str.replace" => (((with_reducible show wpAny _ _ (call (Value.builtin _) [Value.str (S _) _, Value.str _ _, Value.str _ _]) _ _ _); k_dflt (refine r_replace (by walk_at "S_lit") (by walk_at "S_lit") (by decide) (Nat.succ_ne_zero _) (Nat.succ_ne_zero _) (Nat.ne_of_lt (Nat.lt_succ_self _)) (by decide) (by walk_at "S_nn") ?_); intro _ _))
  k_with "call builtin:str.join" => ((k_here; (with_reducible show wpAny _ _ (call (Value.builtin _) [Value.str _ _, Value.ref _]) _ _ _); k_dflt (refine r_join (by walk_at "S_lit") (by walk_at "S_isl") (by walk_at "S_strs") (by walk_at "S_sum") ?_); intro _ _))
  k_with "S_isl" => (first | assumption | exact ⟨LCg.lst _, News.get (by k_asm) (by k_mem), rfl, _, rfl⟩ | is_list)
  k_with "S_strs" => (first | exact StrsAre.nil | assumption | (exact CharsAre.strs (by assumption)))
  k_with "binaryOp Mult str int" => (((with_reducible show wpAny _ _ (binaryOp _ (Value.str (S _) _) (Value.int _ _)) _ _ _); k_dflt (refine r_mul (by walk_at "S_int") (by walk_at "S_int") (by walk_at "S_nn") ?_); intro _ _))
  k_with "S_enterC" => ((refine' code_defCG ?Q13Xa ?Q13Xb ?Q13Xc ?Q13Xd ?Q13Xe ?Q13Xf ?Q13Xg ?Q13Xh ?Q13Xi ?Q13Xj ?Q13Xk ?Q13Xl ?Q13Xm ?Q13Xn ?_ ?Q13Xo ?Q13Xp ?Q13Xq; (case Q13Xf => exact rfl); (case Q13Xg => exact rfl); (case Q13Xh => assumption); (case Q13Xa => k_asm); (case Q13Xb => k_asm); (case Q13Xc => k_asm); (case Q13Xd => k_asm); (case Q13Xe => k_asm); (case Q13Xi => k_is); (case Q13Xj => k_is); (case Q13Xk => ktr_room); (case Q13Xl => exact BindsTo.of_eq rfl); (case Q13Xm => rfl); (case Q13Xn => decide); (case Q13Xo => exact rfl); (case Q13Xp => exact rfl); (case Q13Xq => exact rfl); k_whole; intro Z13Xj Z13Xd Z13Xk Z13Xo Z13Xi Z13Xc Z13Xb Z13Xe Z13Xh Z13Xa Z13Xg Z13Xf Z13Xm Z13Xl Z13Xn; (try dsimp only [List.map_nil, List.map_cons] at Z13Xl); (try k_lt Z13Xm); k_cells Z13Xh; (try simp only [List.cons_append, List.nil_append] at Z13Xe); (try dsimp only); (try k_lift Z13Xa); (try k_fold)))
  k_with "S_lcs" => ((k_here; k_dflt (refine ListComp_S (_F₀ := by k_asm) (by rfl) (by decide) (by rfl) (by decide) (by rfl) ?_)))
  k_with "S_lit" => (first | (with_reducible exact lit_dots) | (with_reducible exact lit_empty) | (with_reducible exact lit34) | (with_reducible exact lit9234) | (with_reducible exact lit92) | (with_reducible exact lit10) | (with_reducible exact lit38) | (with_reducible exact lit59) | (with_reducible exact lit60) | (with_reducible exact lit62) | (with_reducible exact lit13) | (with_reducible exact lit9) | (with_reducible exact litamp) | (with_reducible exact litlt) | (with_reducible exact litgt) | (with_reducible exact litquot) | (with_reducible rfl))
  k_with "S_sum" => (assumption)
  k_with "eval ListComp" => ((k_here; (with_reducible show wpAny _ _ (eval (PySem.Expr.ListComp _ [⟨PySem.Expr.Tuple _ _ _, _, [], 0⟩] _ _) _) _ _ _); k_dflt (refine ListComp_E (_F₀ := by k_asm) (by rfl) (by decide) (by rfl) (by decide) (by rfl) (by rfl) (by decide) ?_)))
  k_with "eval ListComp" => ((k_here; (with_reducible show wpAny _ _ (eval (PySem.Expr.ListComp _ [⟨PySem.Expr.Name _ _, _, [], 0⟩] _ _) _) _ _ _); k_dflt (refine LCg.ListComp_U (F₀ := by k_asm) (by rfl) (by decide) (by rfl) (by decide) (by rfl) ?_)))
  k_with "call type:enumerate" => (refine stop9 ?_)
  k_with "exec Assign cons ListComp" => ((k_here; k_dflt (refine wpAny_Assign_Name ?_ (by rfl))))
  k_with "CompSrc" => (refine stop9 ?_)
  k_with "CompEnd" => (refine stop9 ?_)
  k_with "FinE" => (((unfold LCg.FinE); intro Z1dXa Z1dXd Z1dXf Z1dXb Z1dXc Z1dXe; (try simp only [List.nil_append, List.cons_append] at Z1dXc); (try dsimp only)))
  k_with "FinA" => (((unfold LCg.FinA); intro Z1eXa Z1eXd Z1eXf Z1eXb Z1eXc Z1eXe; (try simp only [List.nil_append, List.cons_append] at Z1eXc); (try dsimp only)))
  k_with "m_k_ne" => (first | (refine neN ?_; (try dsimp only); omega) | exact off1_ne (by assumption) (by k_mem) | exact Ne.symm (off1_ne (by assumption) (by k_mem)))
  k_with "eval ListComp" => ((k_here; (with_reducible show wpAny _ _ (eval (PySem.Expr.ListComp _ [⟨PySem.Expr.Name _ _, _, [_], 0⟩] _ _) _) _ _ _); k_dflt (refine LCt.ListComp_T (F₀ := by k_asm) (by rfl) (by decide) (by rfl) (by decide) (by rfl) ?_)))
  k_with "CompSrcT" => (refine stop9 ?_)
  k_with "S_laps" => ((intro Z1iXf; obtain ⟨Z1iXa, Z1iXj, Z1iXi, Z1iXh, Z1iXc, Z1iXd, Z1iXe⟩ := Z1iXf; subst Z1iXh; (obtain ⟨Z1iXb, Z1iXg⟩ := news_add (by k_asm) (by k_asm) (by k_asm) Z1iXc Z1iXd)))
  k_with "S_il" => (((rename News _ _ _ _ => Z1jXa); exact ⟨_, News.get Z1jXa (by k_mem), rfl, _, rfl⟩))
  k_with "execs cons" => (((have _sf : StopH := by assumption); clear _sf; refine stop9 ?_))
  k_with "compareOp NotEq ref ref" => ((k_here; (with_reducible show wpAny _ _ (compareOp CmpOp.NotEq (Value.ref _) (Value.ref _)) _ _ _); k_dflt (refine' r_neInts_same ?Q1lXa ?Q1lXb ?Q1lXc ?Q1lXd ?Q1lXe ?_; (case Q1lXa => walk_at "S_il"); (case Q1lXc => walk_at "S_il"); (case Q1lXb => first | exact .nil | assumption); (case Q1lXd => first | exact .nil | assumption); (case Q1lXe => ke_room))))
  k_with "callWith ref" => ((k_here; k_dflt (refine' callWith_K ?Q1mXa ?Q1mXb ?_; (case Q1mXa => k_asm); (case Q1mXb => assumption); k_whole)))
  k_with "compareOp NotEq str str" => ((k_here; k_dflt (refine r_neS (wr_ne (by assumption) (by assumption)) ?_)))
  k_with "S_con" => (first | exact con_laps _ _ (by omega) (by assumption) | exact wr_con (by assumption) _ _ (by assumption))
  k_with "S_back" => (first | walk_at "S_laps" | (intro Z1pXb; obtain ⟨Z1pXc, Z1pXa⟩ := Z1pXb; subst Z1pXa))
  k_with "call ref" => (refine stop9 ?_)
  k_with "call ref" => ((k_here; k_dflt (walk_at "S_use"); intro Z1rXf Z1rXd Z1rXe Z1rXb; (have Z1rXa := Fr.keeps (by k_asm) Z1rXb); (have Z1rXc := News.grown (by k_asm) Z1rXb); walk_at "S_back" <;> ((try dsimp only); (try k_fold))))
  trivial
theorem main13 {w : World} {p loose mean mg mb} {dp un : Nat} {gd : Option (List Code)} {L fa : Addr} {ccd : Value} {outer : List Env} {A₀ : Around} {base g : Heap} {m : PySem.Str → Option Value} {s : Shared} {Q : Flow → Shared → Prop} {E : Value → Shared → Prop}
    (o3 o4 o6 o7 : Obj) (G : Addr) (fw : Nat) (wr : List Nat → List Nat) (mk f0 f1 f2 : List Nat) (tm u0 u1 u2 : Tok) (hwr : (fw, wr, mk, f0, f1, f2) ∈ wrT) (d3 : o3.data = .cell (some (.str (S mk) tm))) (d4 : o4.data = .cell (some (.ref G))) (txt : List Nat) (hx9 : txt.length ≤ 9) (hx1 : txt ≠ []) (tt : Tok) (hr8 : ∀ c ∈ txt, R8 c) (hfr : 46 ∉ txt) (Dl : Addr) (pl : List Value) (hpl2 : IntsAre pl (nI (lapsL txt))) (d7 : o7.data = .cell (some (.ref Dl))) (d6 : o6.data = .cell (some (.str (S txt) tt))) (tl : List (Addr × Obj))
    (hwn : m (PySem.Str.ofString "writer") = some (.ref fw)) (Dr Da : Addr) (hrm : m (PySem.Str.ofString "room") = some (.ref Dr)) (hah : m (PySem.Str.ofString "ahead") = some (.ref Da))
    (hB : Below A₀ base outer g) (hF : Fr g L s.heap m) (hX : (hd.heap_1 w.params).In g) (hT : Top p loose mean mg mb g) (hr : dp + 30 < recursionLimit) (hu : un + 16 * 30 < cLine) (hC : CodeHd base 111 107) (hN : News g L s.heap ((Da, lst []) :: (Dr, lst []) :: (Dl, lst pl) :: (G, tupObj [.str (S f0) u0, .str (S f1) u1, .str (S f2) u2]) :: (L + 1 + 1 + 1 + 1 + 1 + 1 + 1, o7) :: (L + 1 + 1 + 1 + 1 + 1 + 1, o6) :: (L + 1 + 1 + 1 + 1, o4) :: (L + 1 + 1 + 1, o3) :: tl))
    (next : ∀ (h' : Heap) (tk' : Nat), Fr g L h' m → News g L h' ((Da, lst []) :: (Dr, lst []) :: (Dl, lst pl) :: (G, tupObj [.str (S f0) u0, .str (S f1) u1, .str (S f2) u2]) :: (L + 1 + 1 + 1 + 1 + 1 + 1 + 1, o7) :: (L + 1 + 1 + 1 + 1 + 1 + 1, o6) :: (L + 1 + 1 + 1 + 1, o4) :: (L + 1 + 1 + 1, o3) :: tl) →
      wpAny (model Challenge.pw_sc0056_01 w) (lawA dp un gd L fa ccd outer) (execs (lawBody.drop 14) (lawEnv L fa ccd)) Q E { s with heap := h', toks := tk' }) :
    wpAny (model Challenge.pw_sc0056_01 w) (lawA dp un gd L fa ccd outer) (execs (lawBody.drop 13) (lawEnv L fa ccd)) Q E s := by
  have hkw := wr_keep (P := w.params) hwr
  obtain ⟨hf0, hf1, hf2, hmk⟩ := wr_mk hwr
  obtain ⟨hp, gns, dr, tk, os⟩ := s
  conv in (List.drop _ lawBody) => whnf
  (try clear sfl)
  walk1
  ((try clear sfl); have sfl : StopH := trivial)
  k_steps
  refine Stop9.go (wpAny_call ?_)
  rename Fr _ _ _ _ => F5
  rename News _ _ _ _ => N5
  k_dflt (refine con_written G txt mk f0 f1 f2 _ _ u0 u1 u2 hx9 hf0 hf1 hf2 (fun c _ hc => hmk c hc) _ _ _ _ _ _ _ _ _ _ _ _ _ _ ⟨_, _, _, _, _⟩ _ _ hB F5 hX hT ?kk ?kr ?ku hC (news_sub N5 ?s0) fun v post h' tk' F' N' K' R => ?_)
  case s0 => lcg_sub
  case kk => rfl
  case kr => ktr_room
  case ku => ktr_units
  obtain ⟨⟨t9, rfl⟩, rfl⟩ := R
  have No : News g L h' ((Da, lst []) :: (Dr, lst []) :: (Dl, lst pl) :: (G, tupObj [.str (S f0) u0, .str (S f1) u1, .str (S f2) u2]) :: (L + 1 + 1 + 1 + 1 + 1 + 1 + 1, o7) :: (L + 1 + 1 + 1 + 1 + 1 + 1, o6) :: (L + 1 + 1 + 1 + 1, o4) :: (L + 1 + 1 + 1, o3) :: tl) := keep_same (news_sub N5 (by (intro p hp; (repeat (rcases List.mem_cons.mp hp with rfl | hp; · k_mem)); repeat first | exact hp | apply List.mem_cons_of_mem))) (by k_mem) K' N'
  clear N5 F5 N' K'
  dsimp only
  k_steps
  refine Stop9.go ?_
  rename Fr _ _ _ _ => F6
  rename News _ _ _ _ => N6
  exact next _ _ F6 (news_sub N6 (by (intro p hp; (repeat (rcases List.mem_cons.mp hp with rfl | hp; · k_mem)); repeat first | exact hp | apply List.mem_cons_of_mem)))
end
section
local macro_rules | `(tactic| walk_at "zz0") => `(tactic| fail)
local macro_rules | `(tactic| walk_at "zz1") => `(tactic| fail)
local macro_rules | `(tactic| walk_at "zz2") => `(tactic| fail)
example : True := by
  k_with_none
  w_top off
  k_with "olt" => (first | assumption | ((fail_if_success refine oM ?_); refine oL ?_; k_extra "ole") | k_extra "olh")
  k_with "olh" => (refine oH (by assumption) (by k_extra "ole"))
  k_with "ole" => (first | exact Nat.le_refl _ | assumption | exact oB | ((first | refine oA ?_ | refine oA2 ?_ | refine oA3 ?_); k_extra "ocl") | (refine oS ?_; k_extra "ole") | (refine Nat.le_of_lt ?_; (first | assumption | k_extra "olh")) | exact oE)
  k_with "olt2" => (first | k_extra "oas" | ((fail_if_success refine oM ?_); refine oL ?_; k_extra "ole2") | k_extra "olh2")
  k_with "olh2" => (refine oH (by k_extra "oas") (by k_extra "ole2"))
  k_with "ole2" => (first | exact Nat.le_refl _ | k_extra "oas" | exact oB | ((first | refine oA ?_ | refine oA2 ?_ | refine oA3 ?_); k_extra "ocl") | (refine oS ?_; k_extra "ole2") | (refine Nat.le_of_lt ?_; (first | k_extra "oas" | k_extra "olh2")) | exact oE)
  k_with "opu" => (first | exact oB | exact Nat.le_refl _ | (refine oS ?_; k_extra "opu"))
  k_with "olt0" => (refine oL ?_; k_extra "opu")
  k_with "one" => (first | (refine Nat.ne_of_gt ?_; (fail_if_success refine oM ?_); k_extra "olt0") | (refine Nat.ne_of_lt ?_; (fail_if_success refine oM ?_); k_extra "olt0") | exact Ne.symm (by assumption) | (refine Nat.ne_of_gt ?_; (fail_if_success refine oM ?_); k_extra "oas") | (refine Nat.ne_of_lt ?_; (fail_if_success refine oM ?_); k_extra "oas") | (refine Nat.ne_of_gt ?_; (fail_if_success refine oM ?_); k_extra "odd") | (refine Nat.ne_of_lt ?_; (fail_if_success refine oM ?_); k_extra "odd") | (refine Nat.ne_of_gt ?_; (fail_if_success refine oM ?_); k_extra "olt") | (refine Nat.ne_of_lt ?_; (fail_if_success refine oM ?_); k_extra "olt") | (refine Nat.ne_of_gt ?_; (fail_if_success refine oM ?_); k_extra "olt2") | (refine Nat.ne_of_lt ?_; (fail_if_success refine oM ?_); k_extra "olt2") | decide)
  k_with "ol1" => (first | ((fail_if_success refine oM ?_); first | k_extra "oas" | k_extra "olt0" | k_extra "odd" | k_extra "olt" | k_extra "olt2") | k_extra "ocl" | exact oT0 | exact oT5)
  k_with "oe1" => (first | ((fail_if_success refine oN ?_); first | k_extra "oas" | k_extra "opu" | k_extra "ole" | k_extra "ole2" | exact oE (by k_extra "oas")) | k_extra "ocl" | k_extra "olit" | k_extra "oas")
  k_with "olit" => (first | exact oT4 | exact oP | exact oP2 | exact oT1 | exact oT2 | exact oT3 | exact oQ5 | exact oQ1 | exact oQ2 | exact oQ3 | exact oQ4 | exact oQ6 | exact oD)
  k_with "ocl" => (with_unfolding_all exact Nat.le_of_ble_eq_true rfl)
  k_with "oas" => (first | assumption | exact oa1 | exact ob1 | exact oa2 | exact ob2 | exact oa3 | exact ob3 | exact oa4 | exact ob4 | exact oa5 | exact ob5 | exact oa6 | exact ob6 | exact oa7 | exact ob7)
  k_with "odd" => (first | exact oa1 ob7 | exact oa2 ob7 | exact oa3 ob7 | exact oa4 ob7 | exact oa5 ob7 | exact oa6 ob7 | exact oa7 ob7 | exact oa1 (ob7 ob7) | exact oa2 (ob7 ob7) | exact oa3 (ob7 ob7) | exact oa4 (ob7 ob7) | exact oa5 (ob7 ob7) | exact oa6 (ob7 ob7) | exact oa7 (ob7 ob7) | exact ob1 ob7 | exact ob2 ob7 | exact ob3 ob7 | exact ob4 ob7 | exact ob5 ob7 | exact ob6 ob7 | exact ob7 ob7)
  k_with "oin" => (first | decide | exact oI1 | exact oI3 | exact oI2 (by k_extra "oas"))
  k_with "om" => (with_reducible first | (first | assumption | ((fail_if_success fail_if_success refine oXn ?_); k_extra "one") | ((fail_if_success fail_if_success refine oXl ?_); k_extra "ol1") | ((fail_if_success fail_if_success refine oXe ?_); k_extra "oe1") | k_extra "oin") | fail)
  k_with "S_fit" => (first | omega | ((simp only [S_len, List.length_append, List.length_cons, List.length_nil, List.length_take, List.length_drop, dots, PySem.sizeLine_eq]); omega))
  k_with "call builtin:len" => (((with_reducible show wpAny _ _ (call (Value.builtin "len") [Value.str (S _) _]) _ _ _); refine r_len (by walk_at "S_fit") ?_))
  k_with "call builtin:str.startswith" => (((with_reducible show wpAny _ _ (call (Value.builtin "str.startswith") [Value.str (S _) _, Value.str (S _) _]) _ _ _); refine r_starts ?_))
  k_with "call builtin:str.endswith" => (((with_reducible show wpAny _ _ (call (Value.builtin "str.endswith") [Value.str (S _) _, Value.str (S _) _]) _ _ _); refine r_ends ?_))
  k_with "truthy str" => (((with_reducible show wpAny _ _ (truthy (Value.str (S _) _)) _ _ _); refine r_truthy (by walk_at "S_fit") ?_))
  k_with "exec For Name Name cons nil" => ((k_here; (rename Fr _ _ _ _ => Z6Xa); (with_unfolding_all refine' For_invVF Z6Xa ?Q6Xa ?Q6Xb ?_; (case Q6Xa => exact rfl); (case Q6Xb => exact rfl); k_whole)))
  k_with "pyIter ref" => (((with_reducible show wpAny _ _ (pyIter (Value.ref _)) (fun it s₂ => LoopAtV _ _ _ _ _ _ _ _ _ it s₂) _ _); k_listUnr))
  k_with "S_enter" => ((refine' code_defG (news := []) ?Q8Xa ?Q8Xb ?Q8Xc ?Q8Xd ?Q8Xe ?Q8Xf ?Q8Xg ?Q8Xh ?Q8Xi ?Q8Xj ?Q8Xk ?Q8Xl ?Q8Xm ?_ ?Q8Xn ?Q8Xo ?Q8Xp ?Q8Xq; (case Q8Xf => exact rfl); (case Q8Xg => exact rfl); (case Q8Xh => assumption); (case Q8Xa => k_asm); (case Q8Xb => k_asm); (case Q8Xc => k_asm); (case Q8Xd => exact News.nil); (case Q8Xe => k_asm); (case Q8Xi => k_is); (case Q8Xj => k_is); (case Q8Xk => ktr_room); (case Q8Xl => exact BindsTo.of_eq rfl); (case Q8Xq => decide); (case Q8Xm => exact locs rfl); (case Q8Xn => exact rfl); (case Q8Xo => exact rfl); (case Q8Xp => exact rfl); k_whole; intro Z8Xh Z8Xd Z8Xi Z8Xc Z8Xb Z8Xe Z8Xa Z8Xg Z8Xf Z8Xj; (try dsimp only [List.map_nil] at Z8Xj); (try dsimp only); (try k_lift Z8Xa); (try k_fold)))
  k_with "S_look" => (first | exact rfl | assumption | exact (if_pos rfl) | (refine (if_neg (by decide)).trans ?_; walk_at "S_look"))
  k_with "eval Name" => ((k_here; k_dflt (refine' nameX_L ?QaXa ?QaXb ?_ ?QaXc ?QaXd; (case QaXa => k_asm); (case QaXc => rfl); (case QaXd => rfl); (case QaXb => walk_at "S_look"); k_whole)))
  k_with "S_lit" => (first | (with_reducible exact lit_dots) | (with_reducible rfl))
  k_with "S_nn" => (first | omega | ((simp only [List.length_append, List.length_cons, List.length_nil, List.length_take, List.length_drop, dots] at *); omega))
  k_with "binaryOp Add str str" => (((with_reducible show wpAny _ _ (binaryOp _ (Value.str _ _) (Value.str _ _)) _ _ _); k_dflt (refine r_add (by walk_at "S_lit") (by walk_at "S_lit") (by walk_at "S_fit") ?_); intro _ _))
  k_with "subscriptTail Name Slice str ref" => (((with_reducible show wpAny _ _ (subscriptTail _ (Expr.Slice none (some _) none _) (Value.str (S _) _) _) _ _ _); (with_reducible rename Fr _ _ _ _ => ZeXa); (with_reducible rename News _ _ _ _ => ZeXb); (refine r_sliceTo (s := ⟨_, _, _, _, _⟩) ZeXa ZeXb (by walk_at "S_nn") (by walk_at "S_fit") ?_); intro _ _ _ _ _))
  k_with "subscriptTail Name Slice str ref" => (((with_reducible show wpAny _ _ (subscriptTail _ (Expr.Slice (some _) none none _) (Value.str (S _) _) _) _ _ _); (with_reducible rename Fr _ _ _ _ => ZfXa); (with_reducible rename News _ _ _ _ => ZfXb); (refine r_sliceFrom (s := ⟨_, _, _, _, _⟩) ZfXa ZfXb (by walk_at "S_nn") (by walk_at "S_fit") ?_); intro _ _ _ _ _))
  k_with "exec For Name Call cons nil" => ((k_here; (rename Fr _ _ _ _ => ZgXa); (with_unfolding_all refine' For_invVF ZgXa ?QgXa ?QgXb ?_; (case QgXa => exact rfl); (case QgXb => exact rfl); k_whole)))
  k_with "S_use" => ((refine' pcon_use ?QhXa ?QhXb ?QhXc ?QhXd ?QhXe ?QhXf ?QhXg ?QhXh ?_; (case QhXb => k_asm); (case QhXc => k_asm); (case QhXd => k_asm); (case QhXe => k_asm); (case QhXa => walk_at "S_con"); (case QhXf => first | exact rfl | assumption); (case QhXg => ktr_room); (case QhXh => ktr_units)))
  k_with "call ref" => ((k_here; k_dflt (walk_at "S_use"); intro ZiXf ZiXd ZiXe ZiXb; (have ZiXa := Fr.keeps (by k_asm) ZiXb); (have ZiXc := News.grown (by k_asm) ZiXb); walk_at "S_back" <;> ((try dsimp only); (try k_fold))))
  k_with "pyIter ref" => (k_extra "S_loop")
  k_with "S_bool" => ((intro ZkXa; (rcases bool_or ZkXa with ⟨R8, R7⟩ | ⟨R8, R7⟩) <;> subst R7))
  k_with "call builtin:list.append" => ((k_here; (with_reducible show wpAny _ _ (call (Value.builtin _) [Value.ref _, _]) _ _ _); k_dflt (refine' append_K ?QlXa ?QlXb ?QlXc ?_ ?QlXd; (case QlXa => k_asm); (case QlXb => k_asm); (case QlXc => k_upd); (case QlXd => exact size_ok (k := 100000) (by omega) (by decide)); k_whole); intro ZlXc ZlXa ZlXb; (try k_sweep)))
  k_with "m_k_room" => (ktr_room)
  k_with "m_k_units" => (ktr_units)
  k_with "S_enterM" => ((refine' code_defG ?QoXa ?QoXb ?QoXc ?QoXd ?QoXe ?QoXf ?QoXg ?QoXh ?QoXi ?QoXj ?QoXk ?QoXl ?QoXm ?_ ?QoXn ?QoXo ?QoXp ?QoXq; (case QoXf => exact rfl); (case QoXg => exact rfl); (case QoXh => assumption); (case QoXa => k_asm); (case QoXb => k_asm); (case QoXc => k_asm); (case QoXd => k_asm); (case QoXe => k_asm); (case QoXi => k_is); (case QoXj => k_is); (case QoXk => ktr_room); (case QoXl => exact BindsTo.of_eq rfl); (case QoXq => decide); (case QoXm => exact locs rfl); (case QoXn => exact rfl); (case QoXo => exact rfl); (case QoXp => exact rfl); k_whole; intro ZoXh ZoXd ZoXi ZoXc ZoXb ZoXe ZoXa ZoXg ZoXf ZoXj; (try dsimp only [List.map_nil, List.map_cons] at ZoXj); (try dsimp only); (try k_lift ZoXa); (try k_fold)))
  k_with "callWith" => (((with_reducible show wpAny _ _ (callWith _ (Prod.fst _) (Prod.snd _) _ _) _ _ _); dsimp only))
  k_with "S_int" => (first | omega | decide | ((simp only [List.length_cons, List.length_nil, decide_eq_true_eq, decide_eq_false_iff_not, beq_iff_eq, beq_eq_false_iff_ne, ne_eq, Int.not_lt, Int.not_le] at *); omega))
  k_with "binaryOp FloorDiv int int" => (((with_reducible show wpAny _ _ (binaryOp _ (Value.int _ _) (Value.int _ _)) _ _ _); k_dflt (refine r_fdiv (by walk_at "S_int") (by walk_at "S_int") ?_); intro _ _))
  k_with "binaryOp Mod int int" => (((with_reducible show wpAny _ _ (binaryOp _ (Value.int _ _) (Value.int _ _)) _ _ _); k_dflt (refine r_fmod (by walk_at "S_int") ?_); intro _ _))
  k_with "S_item" => (((with_reducible show wpAny _ _ (subscriptTail _ _ (Value.str (S _) _) (Value.int _ _)) _ _ _); k_dflt (refine r_item (by walk_at "S_int") (by walk_at "S_int") (by walk_at "S_fit") ?_); intro _ _))
  k_with "subscriptTail Name BinOp str int" => (walk_at "S_item")
  k_with "subscriptTail Name Constant str int" => (walk_at "S_item")
  k_with "subscriptTail Name Name str int" => (walk_at "S_item")
  k_with "S_lit" => (first | (with_reducible exact lit_dots) | (with_reducible exact lit_empty) | (with_reducible exact lit34) | (with_reducible exact lit9234) | (with_reducible exact lit92) | (with_reducible exact lit10) | (with_reducible exact lit38) | (with_reducible exact lit59) | (with_reducible rfl))
  k_with "call builtin:str.replace" => (((with_reducible show wpAny _ _ (call (Value.builtin _) [Value.str (S _) _, Value.str _ _, Value.str _ _]) _ _ _); k_dflt (refine r_replace (by walk_at "S_lit") (by walk_at "S_lit") (by decide) (Nat.succ_ne_zero _) (Nat.succ_ne_zero _) (Nat.ne_of_lt (Nat.lt_succ_self _)) (by decide) (by walk_at "S_nn") ?_); intro _ _))
  k_with "call builtin:str.join" => ((k_here; (with_reducible show wpAny _ _ (call (Value.builtin _) [Value.str _ _, Value.ref _]) _ _ _); k_dflt (refine r_join (by walk_at "S_lit") (by walk_at "S_isl") (by walk_at "S_strs") (by walk_at "S_sum") ?_); intro _ _))
  k_with "S_isl" => (first | assumption | exact ⟨LCg.lst _, News.get (by k_asm) (by k_mem), rfl, _, rfl⟩ | is_list)
  k_with "S_strs" => (first | exact StrsAre.nil | assumption | (exact CharsAre.strs (by assumption)))
  k_with "binaryOp Mult str int" => (((with_reducible show wpAny _ _ (binaryOp _ (Value.str (S _) _) (Value.int _ _)) _ _ _); k_dflt (refine r_mul (by walk_at "S_int") (by walk_at "S_int") (by walk_at "S_nn") ?_); intro _ _))
  k_with "S_enterC" => ((refine' code_defCG ?Q13Xa ?Q13Xb ?Q13Xc ?Q13Xd ?Q13Xe ?Q13Xf ?Q13Xg ?Q13Xh ?Q13Xi ?Q13Xj ?Q13Xk ?Q13Xl ?Q13Xm ?Q13Xn ?_ ?Q13Xo ?Q13Xp ?Q13Xq; (case Q13Xf => exact rfl); (case Q13Xg => exact rfl); (case Q13Xh => assumption); (case Q13Xa => k_asm); (case Q13Xb => k_asm); (case Q13Xc => k_asm); (case Q13Xd => k_asm); (case Q13Xe => k_asm); (case Q13Xi => k_is); (case Q13Xj => k_is); (case Q13Xk => ktr_room); (case Q13Xl => exact BindsTo.of_eq rfl); (case Q13Xm => rfl); (case Q13Xn => decide); (case Q13Xo => exact rfl); (case Q13Xp => exact rfl); (case Q13Xq => exact rfl); k_whole; intro Z13Xj Z13Xd Z13Xk Z13Xo Z13Xi Z13Xc Z13Xb Z13Xe Z13Xh Z13Xa Z13Xg Z13Xf Z13Xm Z13Xl Z13Xn; (try dsimp only [List.map_nil, List.map_cons] at Z13Xl); (try k_lt Z13Xm); k_cells Z13Xh; (try simp only [List.cons_append, List.nil_append] at Z13Xe); (try dsimp only); (try k_lift Z13Xa); (try k_fold)))
  k_with "S_lcs" => ((k_here; k_dflt (refine ListComp_S (_F₀ := by k_asm) (by rfl) (by decide) (by rfl) (by decide) (by rfl) ?_)))
  k_with "S_lit" => (first | (with_reducible exact lit_dots) | (with_reducible exact lit_empty) | (with_reducible exact lit34) | (with_reducible exact lit9234) | (with_reducible exact lit92) | (with_reducible exact lit10) | (with_reducible exact lit38) | (with_reducible exact lit59) | (with_reducible exact lit60) | (with_reducible exact lit62) | (with_reducible exact lit13) | (with_reducible exact lit9) | (with_reducible exact litamp) | (with_reducible exact litlt) | (with_reducible exact litgt) | (with_reducible exact litquot) | (with_reducible rfl))
  k_with "S_sum" => (assumption)
  k_with "eval ListComp" => ((k_here; (with_reducible show wpAny _ _ (eval (PySem.Expr.ListComp _ [⟨PySem.Expr.Tuple _ _ _, _, [], 0⟩] _ _) _) _ _ _); k_dflt (refine ListComp_E (_F₀ := by k_asm) (by rfl) (by decide) (by rfl) (by decide) (by rfl) (by rfl) (by decide) ?_)))
  k_with "eval ListComp" => ((k_here; (with_reducible show wpAny _ _ (eval (PySem.Expr.ListComp _ [⟨PySem.Expr.Name _ _, _, [], 0⟩] _ _) _) _ _ _); k_dflt (refine LCg.ListComp_U (F₀ := by k_asm) (by rfl) (by decide) (by rfl) (by decide) (by rfl) ?_)))
  k_with "call type:enumerate" => (refine stop9 ?_)
  k_with "exec Assign cons ListComp" => ((k_here; k_dflt (refine wpAny_Assign_Name ?_ (by rfl))))
  k_with "CompSrc" => (refine stop9 ?_)
  k_with "CompEnd" => (refine stop9 ?_)
  k_with "FinE" => (((unfold LCg.FinE); intro Z1dXa Z1dXd Z1dXf Z1dXb Z1dXc Z1dXe; (try simp only [List.nil_append, List.cons_append] at Z1dXc); (try dsimp only)))
  k_with "FinA" => (((unfold LCg.FinA); intro Z1eXa Z1eXd Z1eXf Z1eXb Z1eXc Z1eXe; (try simp only [List.nil_append, List.cons_append] at Z1eXc); (try dsimp only)))
  k_with "m_k_ne" => (first | (refine neN ?_; (try dsimp only); omega) | exact off1_ne (by assumption) (by k_mem) | exact Ne.symm (off1_ne (by assumption) (by k_mem)))
  k_with "eval ListComp" => ((k_here; (with_reducible show wpAny _ _ (eval (PySem.Expr.ListComp _ [⟨PySem.Expr.Name _ _, _, [_], 0⟩] _ _) _) _ _ _); k_dflt (refine LCt.ListComp_T (F₀ := by k_asm) (by rfl) (by decide) (by rfl) (by decide) (by rfl) ?_)))
  k_with "CompSrcT" => (refine stop9 ?_)
  k_with "S_laps" => ((intro Z1iXf; obtain ⟨Z1iXa, Z1iXj, Z1iXi, Z1iXh, Z1iXc, Z1iXd, Z1iXe⟩ := Z1iXf; subst Z1iXh; (obtain ⟨Z1iXb, Z1iXg⟩ := news_add (by k_asm) (by k_asm) (by k_asm) Z1iXc Z1iXd)))
  k_with "S_il" => (((rename News _ _ _ _ => Z1jXa); exact ⟨_, News.get Z1jXa (by k_mem), rfl, _, rfl⟩))
  k_with "execs cons" => (((have _sf : StopH := by assumption); clear _sf; refine stop9 ?_))
  k_with "compareOp NotEq ref ref" => ((k_here; (with_reducible show wpAny _ _ (compareOp CmpOp.NotEq (Value.ref _) (Value.ref _)) _ _ _); k_dflt (refine' r_neInts_same ?Q1lXa ?Q1lXb ?Q1lXc ?Q1lXd ?Q1lXe ?_; (case Q1lXa => walk_at "S_il"); (case Q1lXc => walk_at "S_il"); (case Q1lXb => assumption); (case Q1lXd => assumption); (case Q1lXe => ke_room))))
  k_with "callWith ref" => ((k_here; k_dflt (refine' callWith_K ?Q1mXa ?Q1mXb ?_; (case Q1mXa => k_asm); (case Q1mXb => assumption); k_whole)))
  k_with "S_con" => (first | exact con_laps _ _ (by omega) (by assumption) | exact wr_con (by assumption) _ _ (by assumption))
  k_with "S_back" => (first | walk_at "S_laps" | (intro Z1oXb; obtain ⟨Z1oXc, Z1oXa⟩ := Z1oXb; subst Z1oXa))
  k_with "call ref" => (refine stop9 ?_)
  k_with "call ref" => ((k_here; k_dflt (walk_at "S_use"); intro Z1qXf Z1qXd Z1qXe Z1qXb; (have Z1qXa := Fr.keeps (by k_asm) Z1qXb); (have Z1qXc := News.grown (by k_asm) Z1qXb); walk_at "S_back" <;> ((try dsimp only); (try k_fold))))
  trivial
theorem main14 {w : World} {p loose mean mg mb} {dp un : Nat} {gd : Option (List Code)} {L fa : Addr} {ccd : Value} {outer : List Env} {A₀ : Around} {base g : Heap} {m : PySem.Str → Option Value} {s : Shared} {Q : Flow → Shared → Prop} {E : Value → Shared → Prop}
    (o3 o4 o6 o7 : Obj) (G : Addr) (fw : Nat) (wr : List Nat → List Nat) (mk f0 f1 f2 : List Nat) (tm u0 u1 u2 : Tok) (hwr : (fw, wr, mk, f0, f1, f2) ∈ wrT) (d3 : o3.data = .cell (some (.str (S mk) tm))) (d4 : o4.data = .cell (some (.ref G))) (txt : List Nat) (hx9 : txt.length ≤ 9) (hx1 : txt ≠ []) (tt : Tok) (hr8 : ∀ c ∈ txt, R8 c) (hfr : 46 ∉ txt) (Dl : Addr) (pl : List Value) (hpl2 : IntsAre pl (nI (lapsL txt))) (d7 : o7.data = .cell (some (.ref Dl))) (d6 : o6.data = .cell (some (.str (S txt) tt))) (tl : List (Addr × Obj))
    (hwn : m (PySem.Str.ofString "writer") = some (.ref fw))
    (hB : Below A₀ base outer g) (hF : Fr g L s.heap m) (hX : (hd.heap_1 w.params).In g) (hT : Top p loose mean mg mb g) (hr : dp + 30 < recursionLimit) (hu : un + 16 * 30 < cLine) (hC : CodeHd base 111 107) (hN : News g L s.heap ((Dl, lst pl) :: (G, tupObj [.str (S f0) u0, .str (S f1) u1, .str (S f2) u2]) :: (L + 1 + 1 + 1 + 1 + 1 + 1 + 1, o7) :: (L + 1 + 1 + 1 + 1 + 1 + 1, o6) :: (L + 1 + 1 + 1 + 1, o4) :: (L + 1 + 1 + 1, o3) :: tl))
    (next : ∀ (h' : Heap) (tk' : Nat), Fr g L h' m → News g L h' ((Dl, lst pl) :: (G, tupObj [.str (S f0) u0, .str (S f1) u1, .str (S f2) u2]) :: (L + 1 + 1 + 1 + 1 + 1 + 1 + 1, o7) :: (L + 1 + 1 + 1 + 1 + 1 + 1, o6) :: (L + 1 + 1 + 1 + 1, o4) :: (L + 1 + 1 + 1, o3) :: tl) →
      wpAny (model Challenge.pw_sc0056_01 w) (lawA dp un gd L fa ccd outer) (execs (lawBody.drop 15) (lawEnv L fa ccd)) Q E { s with heap := h', toks := tk' }) :
    wpAny (model Challenge.pw_sc0056_01 w) (lawA dp un gd L fa ccd outer) (execs (lawBody.drop 14) (lawEnv L fa ccd)) Q E s := by
  have hkw := wr_keep (P := w.params) hwr
  obtain ⟨hf0, hf1, hf2, hmk⟩ := wr_mk hwr
  have hwl : (wr txt).length ≤ 63 := by rw [wr_eq hwr hr8]; exact written_len hf0 hf1 hf2 hx9
  have hwf := wr_free hwr hr8
  have hlw := laps_written hwr hr8
  have hpl3 := hpl2.length
  have hpl4 : (lapsL txt).length ≤ 9 := by
    have := List.length_filter_le (lapB txt) ((List.range txt.length).map (· + 1))
    rw [List.length_map, List.length_range] at this
    exact Nat.le_trans this hx9
  simp only [nI, List.length_map] at hpl3
  obtain ⟨hp, gns, dr, tk, os⟩ := s
  conv in (List.drop _ lawBody) => whnf
  (try clear sfl)
  walk1
  ((try clear sfl); have sfl : StopH := trivial)
  k_steps
  refine Stop9.go ?_
  rename Fr _ _ _ _ => F1
  rename News _ _ _ _ => N1
  rename IntsAre _ (nI (lapsL (wr txt))) => hIw
  rw [hlw] at hIw
  k_dflt (refine CompSrc.ledger rfl F1 N1 (by k_mem) (by rw [List.size_toArray, PySem.sizeLine_eq]; omega) fun g' => ?_)
  refine rest_ind (J := fun i ys news => IntsAre ys (nI (((lapsL txt).take i).map (wlL mk f0 f1 f2 txt))) ∧ news = _) ?step ?fin _ 0 _ _ (Nat.zero_add _) ⟨.nil, rfl⟩
  case step =>
    rintro i v ys news I oI C oC D m2 h2 tk2 E9 hi hP ⟨hJ, rfl⟩ hC2 hx F2 N2 off ne
    clear N1 F1
    obtain ⟨kz, uz, rfl, hz1, hz2, hz3, hz4⟩ := laps_get hpl2 hP
    have ekz : (kz : Int).toNat = kz := by omega
    have hfl : ((txt.take (kz : Int).toNat).flatMap (wrL mk f0 f1 f2)).length ≤ 63 := written_len hf0 hf1 hf2 (by rw [List.length_take]; omega)
    dsimp only
    k_steps
    refine Stop9.go (wpAny_call ?_)
    rename Fr _ _ _ _ => F5
    rename News _ _ _ _ => N5
    k_dflt (refine con_written G (txt.take (kz : Int).toNat) mk f0 f1 f2 _ _ u0 u1 u2 (by rw [List.length_take]; omega) hf0 hf1 hf2 (fun c _ hc => hmk c hc) _ _ _ _ _ _ _ _ _ _ _ _ _ _ ⟨_, _, _, _, _⟩ _ _ hB F5 hX hT ?kk ?kr ?ku hC (news_sub N5 ?s0) fun v post h' tk' F' N' K' R => ?_)
    case s0 => lcg_sub
    case kk => rfl
    case kr => ktr_room
    case ku => ktr_units
    obtain ⟨⟨t9, rfl⟩, rfl⟩ := R
    have No := keep_same N5 (by k_mem) K' N'
    clear N5 F5 N' K'
    dsimp only
    k_steps
    refine Stop9.go ?_
    rename Fr _ _ _ _ => F6
    rename News _ _ _ _ => N6
    refine CompEnd.intro F6 N6 _ ?s2 off ?sr ⟨?st, rfl⟩
    case s2 => (intro p hp; repeat first | exact hp | apply List.mem_cons_of_mem)
    case sr => lcg_src
    case st =>
      have e1 : (lapsL txt).take (i + 1) = (lapsL txt).take i ++ [kz] := by
        rw [List.take_add_one, hz1]; rfl
      rw [e1, List.map_append]
      have e2 : nI (((lapsL txt).take i).map (wlL mk f0 f1 f2 txt) ++ [kz].map (wlL mk f0 f1 f2 txt)) = nI (((lapsL txt).take i).map (wlL mk f0 f1 f2 txt)) ++ [((((txt.take (kz : Int).toNat).flatMap (wrL mk f0 f1 f2)).length : Nat) : Int)] := by
        rw [ekz]; simp [nI, wlL]
      rw [e2]
      exact ints_snoc hJ
  case fin =>
    rintro ys news ⟨hJ, rfl⟩
    clear N1 F1
    intro Dw h5 tk5 F5 N5 o5'
    replace hJ : IntsAre ys (nI ((lapsL txt).map (wlL mk f0 f1 f2 txt))) := by
      have e : (lapsL txt).take pl.toArray.size = lapsL txt := List.take_of_length_le (by rw [List.size_toArray]; omega)
      rw [e] at hJ
      exact hJ
    dsimp only
    k_steps
    refine Stop9.go ?_
    rename Fr _ _ _ _ => F6
    rename News _ _ _ _ => N6
    exact next _ _ F6 (news_sub N6 (by (intro p hp; (repeat (rcases List.mem_cons.mp hp with rfl | hp; · k_mem)); repeat first | exact hp | apply List.mem_cons_of_mem)))
end
section
example : True := by
  k_with_none
  w_top off
  k_with "olt" => (first | assumption | ((fail_if_success refine oM ?_); refine oL ?_; k_extra "ole") | k_extra "olh")
  k_with "olh" => (refine oH (by assumption) (by k_extra "ole"))
  k_with "ole" => (first | exact Nat.le_refl _ | assumption | exact oB | ((first | refine oA ?_ | refine oA2 ?_ | refine oA3 ?_); k_extra "ocl") | (refine oS ?_; k_extra "ole") | (refine Nat.le_of_lt ?_; (first | assumption | k_extra "olh")) | exact oE)
  k_with "olt2" => (first | k_extra "oas" | ((fail_if_success refine oM ?_); refine oL ?_; k_extra "ole2") | k_extra "olh2")
  k_with "olh2" => (refine oH (by k_extra "oas") (by k_extra "ole2"))
  k_with "ole2" => (first | exact Nat.le_refl _ | k_extra "oas" | exact oB | ((first | refine oA ?_ | refine oA2 ?_ | refine oA3 ?_); k_extra "ocl") | (refine oS ?_; k_extra "ole2") | (refine Nat.le_of_lt ?_; (first | k_extra "oas" | k_extra "olh2")) | exact oE)
  k_with "opu" => (first | exact oB | exact Nat.le_refl _ | (refine oS ?_; k_extra "opu"))
  k_with "olt0" => (refine oL ?_; k_extra "opu")
  k_with "one" => (first | (refine Nat.ne_of_gt ?_; (fail_if_success refine oM ?_); k_extra "olt0") | (refine Nat.ne_of_lt ?_; (fail_if_success refine oM ?_); k_extra "olt0") | exact Ne.symm (by assumption) | (refine Nat.ne_of_gt ?_; (fail_if_success refine oM ?_); k_extra "oas") | (refine Nat.ne_of_lt ?_; (fail_if_success refine oM ?_); k_extra "oas") | (refine Nat.ne_of_gt ?_; (fail_if_success refine oM ?_); k_extra "odd") | (refine Nat.ne_of_lt ?_; (fail_if_success refine oM ?_); k_extra "odd") | (refine Nat.ne_of_gt ?_; (fail_if_success refine oM ?_); k_extra "olt") | (refine Nat.ne_of_lt ?_; (fail_if_success refine oM ?_); k_extra "olt") | (refine Nat.ne_of_gt ?_; (fail_if_success refine oM ?_); k_extra "olt2") | (refine Nat.ne_of_lt ?_; (fail_if_success refine oM ?_); k_extra "olt2") | decide)
  k_with "ol1" => (first | ((fail_if_success refine oM ?_); first | k_extra "oas" | k_extra "olt0" | k_extra "odd" | k_extra "olt" | k_extra "olt2") | k_extra "ocl" | exact oT0 | exact oT5)
  k_with "oe1" => (first | ((fail_if_success refine oN ?_); first | k_extra "oas" | k_extra "opu" | k_extra "ole" | k_extra "ole2" | exact oE (by k_extra "oas")) | k_extra "ocl" | k_extra "olit" | k_extra "oas")
  k_with "olit" => (first | exact oT4 | exact oP | exact oP2 | exact oT1 | exact oT2 | exact oT3 | exact oQ5 | exact oQ1 | exact oQ2 | exact oQ3 | exact oQ4 | exact oQ6 | exact oD)
  k_with "ocl" => (with_unfolding_all exact Nat.le_of_ble_eq_true rfl)
  k_with "oas" => (first | assumption | exact oa1 | exact ob1 | exact oa2 | exact ob2 | exact oa3 | exact ob3 | exact oa4 | exact ob4 | exact oa5 | exact ob5 | exact oa6 | exact ob6 | exact oa7 | exact ob7)
  k_with "odd" => (first | exact oa1 ob7 | exact oa2 ob7 | exact oa3 ob7 | exact oa4 ob7 | exact oa5 ob7 | exact oa6 ob7 | exact oa7 ob7 | exact oa1 (ob7 ob7) | exact oa2 (ob7 ob7) | exact oa3 (ob7 ob7) | exact oa4 (ob7 ob7) | exact oa5 (ob7 ob7) | exact oa6 (ob7 ob7) | exact oa7 (ob7 ob7) | exact ob1 ob7 | exact ob2 ob7 | exact ob3 ob7 | exact ob4 ob7 | exact ob5 ob7 | exact ob6 ob7 | exact ob7 ob7)
  k_with "oin" => (first | decide | exact oI1 | exact oI3 | exact oI2 (by k_extra "oas"))
  k_with "om" => (with_reducible first | (first | assumption | ((fail_if_success fail_if_success refine oXn ?_); k_extra "one") | ((fail_if_success fail_if_success refine oXl ?_); k_extra "ol1") | ((fail_if_success fail_if_success refine oXe ?_); k_extra "oe1") | k_extra "oin") | fail)
  k_with "S_fit" => (first | omega | ((simp only [S_len, List.length_append, List.length_cons, List.length_nil, List.length_take, List.length_drop, dots, PySem.sizeLine_eq]); omega))
  k_with "call builtin:len" => (((with_reducible show wpAny _ _ (call (Value.builtin "len") [Value.str (S _) _]) _ _ _); refine r_len (by walk_at "S_fit") ?_))
  k_with "call builtin:str.startswith" => (((with_reducible show wpAny _ _ (call (Value.builtin "str.startswith") [Value.str (S _) _, Value.str (S _) _]) _ _ _); refine r_starts ?_))
  k_with "call builtin:str.endswith" => (((with_reducible show wpAny _ _ (call (Value.builtin "str.endswith") [Value.str (S _) _, Value.str (S _) _]) _ _ _); refine r_ends ?_))
  k_with "truthy str" => (((with_reducible show wpAny _ _ (truthy (Value.str (S _) _)) _ _ _); refine r_truthy (by walk_at "S_fit") ?_))
  k_with "exec For Name Name cons nil" => ((k_here; (rename Fr _ _ _ _ => Z6Xa); (with_unfolding_all refine' For_invVF Z6Xa ?Q6Xa ?Q6Xb ?_; (case Q6Xa => exact rfl); (case Q6Xb => exact rfl); k_whole)))
  k_with "pyIter ref" => (((with_reducible show wpAny _ _ (pyIter (Value.ref _)) (fun it s₂ => LoopAtV _ _ _ _ _ _ _ _ _ it s₂) _ _); k_listUnr))
  k_with "S_enter" => ((refine' code_defG (news := []) ?Q8Xa ?Q8Xb ?Q8Xc ?Q8Xd ?Q8Xe ?Q8Xf ?Q8Xg ?Q8Xh ?Q8Xi ?Q8Xj ?Q8Xk ?Q8Xl ?Q8Xm ?_ ?Q8Xn ?Q8Xo ?Q8Xp ?Q8Xq; (case Q8Xf => exact rfl); (case Q8Xg => exact rfl); (case Q8Xh => assumption); (case Q8Xa => k_asm); (case Q8Xb => k_asm); (case Q8Xc => k_asm); (case Q8Xd => exact News.nil); (case Q8Xe => k_asm); (case Q8Xi => k_is); (case Q8Xj => k_is); (case Q8Xk => ktr_room); (case Q8Xl => exact BindsTo.of_eq rfl); (case Q8Xq => decide); (case Q8Xm => exact locs rfl); (case Q8Xn => exact rfl); (case Q8Xo => exact rfl); (case Q8Xp => exact rfl); k_whole; intro Z8Xh Z8Xd Z8Xi Z8Xc Z8Xb Z8Xe Z8Xa Z8Xg Z8Xf Z8Xj; (try dsimp only [List.map_nil] at Z8Xj); (try dsimp only); (try k_lift Z8Xa); (try k_fold)))
  k_with "S_look" => (first | exact rfl | assumption | exact (if_pos rfl) | (refine (if_neg (by decide)).trans ?_; walk_at "S_look"))
  k_with "eval Name" => ((k_here; k_dflt (refine' nameX_L ?QaXa ?QaXb ?_ ?QaXc ?QaXd; (case QaXa => k_asm); (case QaXc => rfl); (case QaXd => rfl); (case QaXb => walk_at "S_look"); k_whole)))
  k_with "S_lit" => (first | (with_reducible exact lit_dots) | (with_reducible rfl))
  k_with "S_nn" => (first | omega | ((simp only [List.length_append, List.length_cons, List.length_nil, List.length_take, List.length_drop, dots] at *); omega))
  k_with "binaryOp Add str str" => (((with_reducible show wpAny _ _ (binaryOp _ (Value.str _ _) (Value.str _ _)) _ _ _); k_dflt (refine r_add (by walk_at "S_lit") (by walk_at "S_lit") (by walk_at "S_fit") ?_); intro _ _))
  k_with "subscriptTail Name Slice str ref" => (((with_reducible show wpAny _ _ (subscriptTail _ (Expr.Slice none (some _) none _) (Value.str (S _) _) _) _ _ _); (with_reducible rename Fr _ _ _ _ => ZeXa); (with_reducible rename News _ _ _ _ => ZeXb); (refine r_sliceTo (s := ⟨_, _, _, _, _⟩) ZeXa ZeXb (by walk_at "S_nn") (by walk_at "S_fit") ?_); intro _ _ _ _ _))
  k_with "subscriptTail Name Slice str ref" => (((with_reducible show wpAny _ _ (subscriptTail _ (Expr.Slice (some _) none none _) (Value.str (S _) _) _) _ _ _); (with_reducible rename Fr _ _ _ _ => ZfXa); (with_reducible rename News _ _ _ _ => ZfXb); (refine r_sliceFrom (s := ⟨_, _, _, _, _⟩) ZfXa ZfXb (by walk_at "S_nn") (by walk_at "S_fit") ?_); intro _ _ _ _ _))
  k_with "exec For Name Call cons nil" => ((k_here; (rename Fr _ _ _ _ => ZgXa); (with_unfolding_all refine' For_invVF ZgXa ?QgXa ?QgXb ?_; (case QgXa => exact rfl); (case QgXb => exact rfl); k_whole)))
  k_with "S_use" => ((refine' pcon_use ?QhXa ?QhXb ?QhXc ?QhXd ?QhXe ?QhXf ?QhXg ?QhXh ?_; (case QhXb => k_asm); (case QhXc => k_asm); (case QhXd => k_asm); (case QhXe => k_asm); (case QhXa => walk_at "S_con"); (case QhXf => first | exact rfl | assumption); (case QhXg => ktr_room); (case QhXh => ktr_units)))
  k_with "call ref" => ((k_here; k_dflt (walk_at "S_use"); intro ZiXf ZiXd ZiXe ZiXb; (have ZiXa := Fr.keeps (by k_asm) ZiXb); (have ZiXc := News.grown (by k_asm) ZiXb); walk_at "S_back" <;> ((try dsimp only); (try k_fold))))
  k_with "pyIter ref" => (k_extra "S_loop")
  k_with "S_bool" => ((intro ZkXa; (rcases bool_or ZkXa with ⟨R8, R7⟩ | ⟨R8, R7⟩) <;> subst R7))
  k_with "call builtin:list.append" => ((k_here; (with_reducible show wpAny _ _ (call (Value.builtin _) [Value.ref _, _]) _ _ _); k_dflt (refine' append_K ?QlXa ?QlXb ?QlXc ?_ ?QlXd; (case QlXa => k_asm); (case QlXb => k_asm); (case QlXc => k_upd); (case QlXd => exact size_ok (k := 100000) (by omega) (by decide)); k_whole); intro ZlXc ZlXa ZlXb; (try k_sweep)))
  k_with "m_k_room" => (ktr_room)
  k_with "m_k_units" => (ktr_units)
  k_with "S_enterM" => ((refine' code_defG ?QoXa ?QoXb ?QoXc ?QoXd ?QoXe ?QoXf ?QoXg ?QoXh ?QoXi ?QoXj ?QoXk ?QoXl ?QoXm ?_ ?QoXn ?QoXo ?QoXp ?QoXq; (case QoXf => exact rfl); (case QoXg => exact rfl); (case QoXh => assumption); (case QoXa => k_asm); (case QoXb => k_asm); (case QoXc => k_asm); (case QoXd => k_asm); (case QoXe => k_asm); (case QoXi => k_is); (case QoXj => k_is); (case QoXk => ktr_room); (case QoXl => exact BindsTo.of_eq rfl); (case QoXq => decide); (case QoXm => exact locs rfl); (case QoXn => exact rfl); (case QoXo => exact rfl); (case QoXp => exact rfl); k_whole; intro ZoXh ZoXd ZoXi ZoXc ZoXb ZoXe ZoXa ZoXg ZoXf ZoXj; (try dsimp only [List.map_nil, List.map_cons] at ZoXj); (try dsimp only); (try k_lift ZoXa); (try k_fold)))
  k_with "callWith" => (((with_reducible show wpAny _ _ (callWith _ (Prod.fst _) (Prod.snd _) _ _) _ _ _); dsimp only))
  k_with "S_int" => (first | omega | decide | ((simp only [List.length_cons, List.length_nil, decide_eq_true_eq, decide_eq_false_iff_not, beq_iff_eq, beq_eq_false_iff_ne, ne_eq, Int.not_lt, Int.not_le] at *); omega))
  k_with "binaryOp FloorDiv int int" => (((with_reducible show wpAny _ _ (binaryOp _ (Value.int _ _) (Value.int _ _)) _ _ _); k_dflt (refine r_fdiv (by walk_at "S_int") (by walk_at "S_int") ?_); intro _ _))
  k_with "binaryOp Mod int int" => (((with_reducible show wpAny _ _ (binaryOp _ (Value.int _ _) (Value.int _ _)) _ _ _); k_dflt (refine r_fmod (by walk_at "S_int") ?_); intro _ _))
  k_with "S_item" => (((with_reducible show wpAny _ _ (subscriptTail _ _ (Value.str (S _) _) (Value.int _ _)) _ _ _); k_dflt (refine r_item (by walk_at "S_int") (by walk_at "S_int") (by walk_at "S_fit") ?_); intro _ _))
  k_with "subscriptTail Name BinOp str int" => (walk_at "S_item")
  k_with "subscriptTail Name Constant str int" => (walk_at "S_item")
  k_with "subscriptTail Name Name str int" => (walk_at "S_item")
  k_with "S_lit" => (first | (with_reducible exact lit_dots) | (with_reducible exact lit_empty) | (with_reducible exact lit34) | (with_reducible exact lit9234) | (with_reducible exact lit92) | (with_reducible exact lit10) | (with_reducible exact lit38) | (with_reducible exact lit59) | (with_reducible rfl))
  k_with "call builtin:str.replace" => (((with_reducible show wpAny _ _ (call (Value.builtin _) [Value.str (S _) _, Value.str _ _, Value.str _ _]) _ _ _); k_dflt (refine r_replace (by walk_at "S_lit") (by walk_at "S_lit") (by decide) (Nat.succ_ne_zero _) (Nat.succ_ne_zero _) (Nat.ne_of_lt (Nat.lt_succ_self _)) (by decide) (by walk_at "S_nn") ?_); intro _ _))
  k_with "call builtin:str.join" => ((k_here; (with_reducible show wpAny _ _ (call (Value.builtin _) [Value.str _ _, Value.ref _]) _ _ _); k_dflt (refine r_join (by walk_at "S_lit") (by walk_at "S_isl") (by walk_at "S_strs") (by walk_at "S_sum") ?_); intro _ _))
  k_with "S_isl" => (first | assumption | exact ⟨LCg.lst _, News.get (by k_asm) (by k_mem), rfl, _, rfl⟩ | is_list)
  k_with "S_strs" => (first | exact StrsAre.nil | assumption | (exact CharsAre.strs (by assumption)))
  k_with "binaryOp Mult str int" => (((with_reducible show wpAny _ _ (binaryOp _ (Value.str (S _) _) (Value.int _ _)) _ _ _); k_dflt (refine r_mul (by walk_at "S_int") (by walk_at "S_int") (by walk_at "S_nn") ?_); intro _ _))
  k_with "S_enterC" => ((refine' code_defCG ?Q13Xa ?Q13Xb ?Q13Xc ?Q13Xd ?Q13Xe ?Q13Xf ?Q13Xg ?Q13Xh ?Q13Xi ?Q13Xj ?Q13Xk ?Q13Xl ?Q13Xm ?Q13Xn ?_ ?Q13Xo ?Q13Xp ?Q13Xq; (case Q13Xf => exact rfl); (case Q13Xg => exact rfl); (case Q13Xh => assumption); (case Q13Xa => k_asm); (case Q13Xb => k_asm); (case Q13Xc => k_asm); (case Q13Xd => k_asm); (case Q13Xe => k_asm); (case Q13Xi => k_is); (case Q13Xj => k_is); (case Q13Xk => ktr_room); (case Q13Xl => exact BindsTo.of_eq rfl); (case Q13Xm => rfl); (case Q13Xn => decide); (case Q13Xo => exact rfl); (case Q13Xp => exact rfl); (case Q13Xq => exact rfl); k_whole; intro Z13Xj Z13Xd Z13Xk Z13Xo Z13Xi Z13Xc Z13Xb Z13Xe Z13Xh Z13Xa Z13Xg Z13Xf Z13Xm Z13Xl Z13Xn; (try dsimp only [List.map_nil, List.map_cons] at Z13Xl); (try k_lt Z13Xm); k_cells Z13Xh; (try simp only [List.cons_append, List.nil_append] at Z13Xe); (try dsimp only); (try k_lift Z13Xa); (try k_fold)))
  k_with "S_lcs" => ((k_here; k_dflt (refine ListComp_S (_F₀ := by k_asm) (by rfl) (by decide) (by rfl) (by decide) (by rfl) ?_)))
  k_with "S_lit" => (first | (with_reducible exact lit_dots) | (with_reducible exact lit_empty) | (with_reducible exact lit34) | (with_reducible exact lit9234) | (with_reducible exact lit92) | (with_reducible exact lit10) | (with_reducible exact lit38) | (with_reducible exact lit59) | (with_reducible exact lit60) | (with_reducible exact lit62) | (with_reducible exact lit13) | (with_reducible exact lit9) | (with_reducible exact litamp) | (with_reducible exact litlt) | (with_reducible exact litgt) | (with_reducible exact litquot) | (with_reducible rfl))
  k_with "S_sum" => (assumption)
  k_with "eval ListComp" => ((k_here; (with_reducible show wpAny _ _ (eval (PySem.Expr.ListComp _ [⟨PySem.Expr.Tuple _ _ _, _, [], 0⟩] _ _) _) _ _ _); k_dflt (refine ListComp_E (_F₀ := by k_asm) (by rfl) (by decide) (by rfl) (by decide) (by rfl) (by rfl) (by decide) ?_)))
  k_with "eval ListComp" => ((k_here; (with_reducible show wpAny _ _ (eval (PySem.Expr.ListComp _ [⟨PySem.Expr.Name _ _, _, [], 0⟩] _ _) _) _ _ _); k_dflt (refine LCg.ListComp_U (F₀ := by k_asm) (by rfl) (by decide) (by rfl) (by decide) (by rfl) ?_)))
  k_with "call type:enumerate" => (refine stop9 ?_)
  k_with "exec Assign cons ListComp" => ((k_here; k_dflt (refine wpAny_Assign_Name ?_ (by rfl))))
  k_with "CompSrc" => (refine stop9 ?_)
  k_with "CompEnd" => (refine stop9 ?_)
  k_with "FinE" => (((unfold LCg.FinE); intro Z1dXa Z1dXd Z1dXf Z1dXb Z1dXc Z1dXe; (try simp only [List.nil_append, List.cons_append] at Z1dXc); (try dsimp only)))
  k_with "FinA" => (((unfold LCg.FinA); intro Z1eXa Z1eXd Z1eXf Z1eXb Z1eXc Z1eXe; (try simp only [List.nil_append, List.cons_append] at Z1eXc); (try dsimp only)))
  k_with "m_k_ne" => (first | (refine neN ?_; (try dsimp only); omega) | exact off1_ne (by assumption) (by k_mem) | exact Ne.symm (off1_ne (by assumption) (by k_mem)))
  k_with "eval ListComp" => ((k_here; (with_reducible show wpAny _ _ (eval (PySem.Expr.ListComp _ [⟨PySem.Expr.Name _ _, _, [_], 0⟩] _ _) _) _ _ _); k_dflt (refine LCt.ListComp_T (F₀ := by k_asm) (by rfl) (by decide) (by rfl) (by decide) (by rfl) ?_)))
  k_with "CompSrcT" => (refine stop9 ?_)
  k_with "S_laps" => ((intro Z1iXf; obtain ⟨Z1iXa, Z1iXj, Z1iXi, Z1iXh, Z1iXc, Z1iXd, Z1iXe⟩ := Z1iXf; subst Z1iXh; (obtain ⟨Z1iXb, Z1iXg⟩ := news_add (by k_asm) (by k_asm) (by k_asm) Z1iXc Z1iXd)))
  k_with "S_il" => (((rename News _ _ _ _ => Z1jXa); exact ⟨_, News.get Z1jXa (by k_mem), rfl, _, rfl⟩))
  k_with "execs cons" => (((have _sf : StopH := by assumption); clear _sf; refine stop9 ?_))
  k_with "call ref" => (refine stop9 ?_)
  k_with "call ref" => ((k_here; k_dflt (walk_at "S_use"); intro Z1mXf Z1mXd Z1mXe Z1mXb; (have Z1mXa := Fr.keeps (by k_asm) Z1mXb); (have Z1mXc := News.grown (by k_asm) Z1mXb); walk_at "S_back" <;> ((try dsimp only); (try k_fold))))
  k_with "S_con" => (exact con_laps _ _ (by omega) (by assumption))
  k_with "S_back" => (walk_at "S_laps")
  k_with "exec While" => (refine stop9 ?_)
  trivial
theorem two0 {w : World} {p loose mean mg mb} {dp un : Nat} {gd : Option (List Code)} {L fa : Addr} {ccd : Value} {outer : List Env} {A₀ : Around} {base g : Heap} {m : PySem.Str → Option Value} {s : Shared} {Q : Flow → Shared → Prop} {E : Value → Shared → Prop}
    (o1 o2 o3 o4 : Obj) (r : RP) (ok : r.Ok) (ln : Int) (tl : Tok) (lf : List Value) (kl : Nat) (kp : Nat) (txt : List Nat) (a b : Nat) (tt ta tb : Tok) (hx9 : txt.length ≤ 9) (hx1 : txt ≠ []) (hfr : 46 ∉ txt) (ha : a ≠ 46) (hb : b ≠ 46) (la : @LT.lt Nat _ r.aP L) (d1 : o1.data = .cell (some (.str (S [b]) tb)))
    (n1 : m (PySem.Str.ofString "reader") = some (.ref r.aR)) (n2 : m (PySem.Str.ofString "text") = some (.str (S txt) tt)) (n3 : m (PySem.Str.ofString "one") = some (.str (S [a]) ta))
    (hB : Below A₀ base outer g) (hF : Fr g L s.heap m) (hX : (hd.heap_1 w.params).In g) (hT : Top p loose mean mg mb g) (hr : dp + 16 < recursionLimit) (hu : un + 16 * 16 < cLine) (hC : CodeHd base 111 107) (hN : News g L s.heap [(L + 1 + 1 + 1 + 1, o4), (L + 1 + 1 + 1, o3), (L + 1 + 1, o2), (L + 1, o1), (r.aP, listOf (([] : List Value)).toArray kp), (r.aR, instObj 59 r.dR), (r.dR, dictOf [ent w.params "lineno" r.t1 (.int (ln) tl), ent w.params "instream" r.t2 (.ref r.aS), ent w.params "whitespace" r.t3 (.str wsT r.t4), ent w.params "pushback" r.t5 (.ref r.aP)] 4), (r.aF, kla_obj (PySem.Str.ofString "<lambda>") r.q (lamArgs 154) (lamBody 154) lamScope [(PySem.Str.ofString "left", r.aC)] r.pm r.cF r.ctv), (r.cF, r.oc), (r.aP2, listOf #[] 0), (r.aS, instObj 59 r.dS), (r.dS, dictOf [ent w.params "lineno" r.s1 (.int 1 r.s0), ent w.params "instream" r.s2 .none, ent w.params "whitespace" r.s3 (.str wsT r.s4), ent w.params "pushback" r.s5 (.ref r.aP2), ent w.params "read" r.s6 (.ref r.aF)] 5), (r.aL, listOf (lf).toArray kl), (r.aC, r.oC)])
    (next : ∀ (h' : Heap) (tk' : Nat) (m' : PySem.Str → Option Value) (Dc D9 : Addr) (vs9 : List Value) (k9 kp' : Nat) (tn : Tok), @LT.lt Nat _ (L + 1 + 1 + 1 + 1) Dc → IntsAre vs9 (nI (lapsL txt)) → AllNe D9 [(Dc, listOf #[] 0), (L + 1 + 1 + 1 + 1, o4), (L + 1 + 1 + 1, o3), (L + 1 + 1, o2), (L + 1, o1), (r.aP, listOf (([] : List Value)).toArray kp'), (r.aR, instObj 59 r.dR), (r.dR, dictOf [ent w.params "lineno" r.t1 (.int (ln) tl), ent w.params "instream" r.t2 (.ref r.aS), ent w.params "whitespace" r.t3 (.str wsT r.t4), ent w.params "pushback" r.t5 (.ref r.aP)] 4), (r.aF, kla_obj (PySem.Str.ofString "<lambda>") r.q (lamArgs 154) (lamBody 154) lamScope [(PySem.Str.ofString "left", r.aC)] r.pm r.cF r.ctv), (r.cF, r.oc), (r.aP2, listOf #[] 0), (r.aS, instObj 59 r.dS), (r.dS, dictOf [ent w.params "lineno" r.s1 (.int 1 r.s0), ent w.params "instream" r.s2 .none, ent w.params "whitespace" r.s3 (.str wsT r.s4), ent w.params "pushback" r.s5 (.ref r.aP2), ent w.params "read" r.s6 (.ref r.aF)] 5), (r.aL, listOf (lf).toArray kl), (r.aC, r.oC)] →
      m' (PySem.Str.ofString "reader") = some (.ref r.aR) → m' (PySem.Str.ofString "one") = some (.str (S [a]) ta) → m' (PySem.Str.ofString "chain") = some (.ref Dc) → m' (PySem.Str.ofString "now") = some (.str (S txt) tn) → m' (PySem.Str.ofString "laps") = some (.ref D9) →  Fr g L h' m' → News g L h' [(D9, listOf vs9.toArray k9), (Dc, listOf #[] 0), (L + 1 + 1 + 1 + 1, o4), (L + 1 + 1 + 1, o3), (L + 1 + 1, o2), (L + 1, o1), (r.aP, listOf (([] : List Value)).toArray kp'), (r.aR, instObj 59 r.dR), (r.dR, dictOf [ent w.params "lineno" r.t1 (.int (ln) tl), ent w.params "instream" r.t2 (.ref r.aS), ent w.params "whitespace" r.t3 (.str wsT r.t4), ent w.params "pushback" r.t5 (.ref r.aP)] 4), (r.aF, kla_obj (PySem.Str.ofString "<lambda>") r.q (lamArgs 154) (lamBody 154) lamScope [(PySem.Str.ofString "left", r.aC)] r.pm r.cF r.ctv), (r.cF, r.oc), (r.aP2, listOf #[] 0), (r.aS, instObj 59 r.dS), (r.dS, dictOf [ent w.params "lineno" r.s1 (.int 1 r.s0), ent w.params "instream" r.s2 .none, ent w.params "whitespace" r.s3 (.str wsT r.s4), ent w.params "pushback" r.s5 (.ref r.aP2), ent w.params "read" r.s6 (.ref r.aF)] 5), (r.aL, listOf (lf).toArray kl), (r.aC, r.oC)] →
      wpAny (model Challenge.pw_sc0056_01 w) (twoA dp un gd L fa ccd outer) (execs (twoBody.drop 4) (twoEnv L fa ccd)) Q E { s with heap := h', toks := tk' }) :
    wpAny (model Challenge.pw_sc0056_01 w) (twoA dp un gd L fa ccd outer) (execs (twoBody.drop 0) (twoEnv L fa ccd)) Q E s := by
  have ok' := ok
  obtain ⟨k1, k2, k3, k4, k5, k6, k7, k8, k9, k10, k11, k12⟩ := ok'
  obtain ⟨hp, gns, dr, tk, os⟩ := s
  conv in (List.drop _ twoBody) => whnf
  (try clear sfl)
  k_steps
  rename News _ _ _ _ => N4
  obtain ⟨Dc, rfl⟩ := head_addr N4
  refine Stop9.go (wpAny_call ?_)
  rename Fr _ _ _ _ => F5
  rename News _ _ _ _ => N5
  k_dflt (refine con_push r ok ln tl kp lf kl (txt) tt _ _ _ _ _ _ _ _ _ _ _ _ _ _ ⟨_, _, _, _, _⟩ _ _ hB F5 hX hT ?kka ?kra ?kua hC (news_sub N5 ?s0a) fun v post ha tka F' N' K' R => ?_)
  case s0a =>
    dsimp only [rdr, rdr7]
    lcg_sub
  case kka => rfl
  case kra => ktr_room
  case kua => ktr_units
  obtain ⟨rfl, rfl⟩ := R
  have Noa : News g L ha ([(Dc, listOf #[] 0), (L + 1 + 1 + 1 + 1, o4), (L + 1 + 1 + 1, o3), (L + 1 + 1, o2), (L + 1, o1)] ++ rdr 154 w.params r ln tl [.str (S txt) tt] (kp + 1) lf kl) := by
    refine con_own (news_sub N5 ?s1a) K' N' ?s2a
    case s1a => lcg_sub
    case s2a =>
      intro p hp
      refine notin_gt ok ?_
      simp only [List.mem_cons, List.not_mem_nil, or_false] at hp
      rcases hp with rfl | rfl | rfl | rfl | rfl <;> (dsimp only; omega)
  clear N5 F5 N' K'
  dsimp only [rdr, rdr7, List.cons_append, List.nil_append] at Noa ⊢
  k_steps
  refine Stop9.go (wpAny_call ?_)
  rename Fr _ _ _ _ => F5
  rename News _ _ _ _ => N5
  k_dflt (refine con_gtp r ok ln tl (kp + 1) lf kl (txt) tt _ _ _ _ _ _ _ _ _ _ _ _ _ _ ⟨_, _, _, _, _⟩ _ _ hB F5 hX hT ?kkb ?krb ?kub hC (news_sub N5 ?s0b) fun v post hb tkb F' N' K' R => ?_)
  case s0b =>
    dsimp only [rdr, rdr7]
    lcg_sub
  case kkb => rfl
  case krb => ktr_room
  case kub => ktr_units
  obtain ⟨rfl, rfl⟩ := R
  have Nob : News g L hb ([(Dc, listOf #[] 0), (L + 1 + 1 + 1 + 1, o4), (L + 1 + 1 + 1, o3), (L + 1 + 1, o2), (L + 1, o1)] ++ rdr 154 w.params r ln tl [] (kp + 1 + 1) lf kl) := by
    refine con_own (news_sub N5 ?s1b) K' N' ?s2b
    case s1b => lcg_sub
    case s2b =>
      intro p hp
      refine notin_gt ok ?_
      simp only [List.mem_cons, List.not_mem_nil, or_false] at hp
      rcases hp with rfl | rfl | rfl | rfl | rfl <;> (dsimp only; omega)
  clear N5 F5 N' K'
  dsimp only [rdr, rdr7, List.cons_append, List.nil_append] at Nob ⊢
  ((try clear sfl); have sfl : StopH := trivial)
  k_steps
  refine Stop9.go ?_
  dsimp only
  (try clear sfl)
  walk1
  walk1
  ((try clear sfl); have sfl : StopH := trivial)
  k_steps
  refine Stop9.go ?_
  rename Fr _ _ _ _ => F6
  rename News _ _ _ _ => N6
  rename AllNe _ _ => al9
  rename IntsAre _ _ => hI9
  refine' next _ _ _ _ _ _ _ _ _ ?lt hI9 al9 (by exact n1) (by exact n3) (by rfl) (by rfl) (by rfl) F6 N6
  case lt => omega
end
section
local macro_rules | `(tactic| walk_at "zz0") => `(tactic| fail)
local macro_rules | `(tactic| walk_at "zz1") => `(tactic| fail)
local macro_rules | `(tactic| walk_at "zz2") => `(tactic| fail)
example : True := by
  k_with_none
  w_top off
  k_with "olt" => (first | assumption | ((fail_if_success refine oM ?_); refine oL ?_; k_extra "ole") | k_extra "olh")
  k_with "olh" => (refine oH (by assumption) (by k_extra "ole"))
  k_with "ole" => (first | exact Nat.le_refl _ | assumption | exact oB | ((first | refine oA ?_ | refine oA2 ?_ | refine oA3 ?_); k_extra "ocl") | (refine oS ?_; k_extra "ole") | (refine Nat.le_of_lt ?_; (first | assumption | k_extra "olh")) | exact oE)
  k_with "olt2" => (first | k_extra "oas" | ((fail_if_success refine oM ?_); refine oL ?_; k_extra "ole2") | k_extra "olh2")
  k_with "olh2" => (refine oH (by k_extra "oas") (by k_extra "ole2"))
  k_with "ole2" => (first | exact Nat.le_refl _ | k_extra "oas" | exact oB | ((first | refine oA ?_ | refine oA2 ?_ | refine oA3 ?_); k_extra "ocl") | (refine oS ?_; k_extra "ole2") | (refine Nat.le_of_lt ?_; (first | k_extra "oas" | k_extra "olh2")) | exact oE)
  k_with "opu" => (first | exact oB | exact Nat.le_refl _ | (refine oS ?_; k_extra "opu"))
  k_with "olt0" => (refine oL ?_; k_extra "opu")
  k_with "one" => (first | (refine Nat.ne_of_gt ?_; (fail_if_success refine oM ?_); k_extra "olt0") | (refine Nat.ne_of_lt ?_; (fail_if_success refine oM ?_); k_extra "olt0") | exact Ne.symm (by assumption) | (refine Nat.ne_of_gt ?_; (fail_if_success refine oM ?_); k_extra "oas") | (refine Nat.ne_of_lt ?_; (fail_if_success refine oM ?_); k_extra "oas") | (refine Nat.ne_of_gt ?_; (fail_if_success refine oM ?_); k_extra "odd") | (refine Nat.ne_of_lt ?_; (fail_if_success refine oM ?_); k_extra "odd") | (refine Nat.ne_of_gt ?_; (fail_if_success refine oM ?_); k_extra "olt") | (refine Nat.ne_of_lt ?_; (fail_if_success refine oM ?_); k_extra "olt") | (refine Nat.ne_of_gt ?_; (fail_if_success refine oM ?_); k_extra "olt2") | (refine Nat.ne_of_lt ?_; (fail_if_success refine oM ?_); k_extra "olt2") | decide)
  k_with "ol1" => (first | ((fail_if_success refine oM ?_); first | k_extra "oas" | k_extra "olt0" | k_extra "odd" | k_extra "olt" | k_extra "olt2") | k_extra "ocl" | exact oT0 | exact oT5)
  k_with "oe1" => (first | ((fail_if_success refine oN ?_); first | k_extra "oas" | k_extra "opu" | k_extra "ole" | k_extra "ole2" | exact oE (by k_extra "oas")) | k_extra "ocl" | k_extra "olit" | k_extra "oas")
  k_with "olit" => (first | exact oT4 | exact oP | exact oP2 | exact oT1 | exact oT2 | exact oT3 | exact oQ5 | exact oQ1 | exact oQ2 | exact oQ3 | exact oQ4 | exact oQ6 | exact oD)
  k_with "ocl" => (with_unfolding_all exact Nat.le_of_ble_eq_true rfl)
  k_with "oas" => (first | assumption | exact oa1 | exact ob1 | exact oa2 | exact ob2 | exact oa3 | exact ob3 | exact oa4 | exact ob4 | exact oa5 | exact ob5 | exact oa6 | exact ob6 | exact oa7 | exact ob7)
  k_with "odd" => (first | exact oa1 ob7 | exact oa2 ob7 | exact oa3 ob7 | exact oa4 ob7 | exact oa5 ob7 | exact oa6 ob7 | exact oa7 ob7 | exact oa1 (ob7 ob7) | exact oa2 (ob7 ob7) | exact oa3 (ob7 ob7) | exact oa4 (ob7 ob7) | exact oa5 (ob7 ob7) | exact oa6 (ob7 ob7) | exact oa7 (ob7 ob7) | exact ob1 ob7 | exact ob2 ob7 | exact ob3 ob7 | exact ob4 ob7 | exact ob5 ob7 | exact ob6 ob7 | exact ob7 ob7)
  k_with "oin" => (first | decide | exact oI1 | exact oI3 | exact oI2 (by k_extra "oas"))
  k_with "om" => (with_reducible first | (first | assumption | ((fail_if_success fail_if_success refine oXn ?_); k_extra "one") | ((fail_if_success fail_if_success refine oXl ?_); k_extra "ol1") | ((fail_if_success fail_if_success refine oXe ?_); k_extra "oe1") | k_extra "oin") | fail)
  k_with "S_fit" => (first | omega | ((simp only [S_len, List.length_append, List.length_cons, List.length_nil, List.length_take, List.length_drop, dots, PySem.sizeLine_eq]); omega))
  k_with "call builtin:len" => (((with_reducible show wpAny _ _ (call (Value.builtin "len") [Value.str (S _) _]) _ _ _); refine r_len (by walk_at "S_fit") ?_))
  k_with "call builtin:str.startswith" => (((with_reducible show wpAny _ _ (call (Value.builtin "str.startswith") [Value.str (S _) _, Value.str (S _) _]) _ _ _); refine r_starts ?_))
  k_with "call builtin:str.endswith" => (((with_reducible show wpAny _ _ (call (Value.builtin "str.endswith") [Value.str (S _) _, Value.str (S _) _]) _ _ _); refine r_ends ?_))
  k_with "truthy str" => (((with_reducible show wpAny _ _ (truthy (Value.str (S _) _)) _ _ _); refine r_truthy (by walk_at "S_fit") ?_))
  k_with "exec For Name Name cons nil" => ((k_here; (rename Fr _ _ _ _ => Z6Xa); (with_unfolding_all refine' For_invVF Z6Xa ?Q6Xa ?Q6Xb ?_; (case Q6Xa => exact rfl); (case Q6Xb => exact rfl); k_whole)))
  k_with "pyIter ref" => (((with_reducible show wpAny _ _ (pyIter (Value.ref _)) (fun it s₂ => LoopAtV _ _ _ _ _ _ _ _ _ it s₂) _ _); k_listUnr))
  k_with "S_enter" => ((refine' code_defG (news := []) ?Q8Xa ?Q8Xb ?Q8Xc ?Q8Xd ?Q8Xe ?Q8Xf ?Q8Xg ?Q8Xh ?Q8Xi ?Q8Xj ?Q8Xk ?Q8Xl ?Q8Xm ?_ ?Q8Xn ?Q8Xo ?Q8Xp ?Q8Xq; (case Q8Xf => exact rfl); (case Q8Xg => exact rfl); (case Q8Xh => assumption); (case Q8Xa => k_asm); (case Q8Xb => k_asm); (case Q8Xc => k_asm); (case Q8Xd => exact News.nil); (case Q8Xe => k_asm); (case Q8Xi => k_is); (case Q8Xj => k_is); (case Q8Xk => ktr_room); (case Q8Xl => exact BindsTo.of_eq rfl); (case Q8Xq => decide); (case Q8Xm => exact locs rfl); (case Q8Xn => exact rfl); (case Q8Xo => exact rfl); (case Q8Xp => exact rfl); k_whole; intro Z8Xh Z8Xd Z8Xi Z8Xc Z8Xb Z8Xe Z8Xa Z8Xg Z8Xf Z8Xj; (try dsimp only [List.map_nil] at Z8Xj); (try dsimp only); (try k_lift Z8Xa); (try k_fold)))
  k_with "S_look" => (first | exact rfl | assumption | exact (if_pos rfl) | (refine (if_neg (by decide)).trans ?_; walk_at "S_look"))
  k_with "eval Name" => ((k_here; k_dflt (refine' nameX_L ?QaXa ?QaXb ?_ ?QaXc ?QaXd; (case QaXa => k_asm); (case QaXc => rfl); (case QaXd => rfl); (case QaXb => walk_at "S_look"); k_whole)))
  k_with "S_lit" => (first | (with_reducible exact lit_dots) | (with_reducible rfl))
  k_with "S_nn" => (first | omega | ((simp only [List.length_append, List.length_cons, List.length_nil, List.length_take, List.length_drop, dots] at *); omega))
  k_with "binaryOp Add str str" => (((with_reducible show wpAny _ _ (binaryOp _ (Value.str _ _) (Value.str _ _)) _ _ _); k_dflt (refine r_add (by walk_at "S_lit") (by walk_at "S_lit") (by walk_at "S_fit") ?_); intro _ _))
  k_with "subscriptTail Name Slice str ref" => (((with_reducible show wpAny _ _ (subscriptTail _ (Expr.Slice none (some _) none _) (Value.str (S _) _) _) _ _ _); (with_reducible rename Fr _ _ _ _ => ZeXa); (with_reducible rename News _ _ _ _ => ZeXb); (refine r_sliceTo (s := ⟨_, _, _, _, _⟩) ZeXa ZeXb (by walk_at "S_nn") (by walk_at "S_fit") ?_); intro _ _ _ _ _))
  k_with "subscriptTail Name Slice str ref" => (((with_reducible show wpAny _ _ (subscriptTail _ (Expr.Slice (some _) none none _) (Value.str (S _) _) _) _ _ _); (with_reducible rename Fr _ _ _ _ => ZfXa); (with_reducible rename News _ _ _ _ => ZfXb); (refine r_sliceFrom (s := ⟨_, _, _, _, _⟩) ZfXa ZfXb (by walk_at "S_nn") (by walk_at "S_fit") ?_); intro _ _ _ _ _))
  k_with "exec For Name Call cons nil" => ((k_here; (rename Fr _ _ _ _ => ZgXa); (with_unfolding_all refine' For_invVF ZgXa ?QgXa ?QgXb ?_; (case QgXa => exact rfl); (case QgXb => exact rfl); k_whole)))
  k_with "S_use" => ((refine' pcon_use ?QhXa ?QhXb ?QhXc ?QhXd ?QhXe ?QhXf ?QhXg ?QhXh ?_; (case QhXb => k_asm); (case QhXc => k_asm); (case QhXd => k_asm); (case QhXe => k_asm); (case QhXa => walk_at "S_con"); (case QhXf => first | exact rfl | assumption); (case QhXg => ktr_room); (case QhXh => ktr_units)))
  k_with "call ref" => ((k_here; k_dflt (walk_at "S_use"); intro ZiXf ZiXd ZiXe ZiXb; (have ZiXa := Fr.keeps (by k_asm) ZiXb); (have ZiXc := News.grown (by k_asm) ZiXb); walk_at "S_back" <;> ((try dsimp only); (try k_fold))))
  k_with "pyIter ref" => (k_extra "S_loop")
  k_with "S_bool" => ((intro ZkXa; (rcases bool_or ZkXa with ⟨R8, R7⟩ | ⟨R8, R7⟩) <;> subst R7))
  k_with "call builtin:list.append" => ((k_here; (with_reducible show wpAny _ _ (call (Value.builtin _) [Value.ref _, _]) _ _ _); k_dflt (refine' append_K ?QlXa ?QlXb ?QlXc ?_ ?QlXd; (case QlXa => k_asm); (case QlXb => k_asm); (case QlXc => k_upd); (case QlXd => exact size_ok (k := 100000) (by omega) (by decide)); k_whole); intro ZlXc ZlXa ZlXb; (try k_sweep)))
  k_with "m_k_room" => (ktr_room)
  k_with "m_k_units" => (ktr_units)
  k_with "S_enterM" => ((refine' code_defG ?QoXa ?QoXb ?QoXc ?QoXd ?QoXe ?QoXf ?QoXg ?QoXh ?QoXi ?QoXj ?QoXk ?QoXl ?QoXm ?_ ?QoXn ?QoXo ?QoXp ?QoXq; (case QoXf => exact rfl); (case QoXg => exact rfl); (case QoXh => assumption); (case QoXa => k_asm); (case QoXb => k_asm); (case QoXc => k_asm); (case QoXd => k_asm); (case QoXe => k_asm); (case QoXi => k_is); (case QoXj => k_is); (case QoXk => ktr_room); (case QoXl => exact BindsTo.of_eq rfl); (case QoXq => decide); (case QoXm => exact locs rfl); (case QoXn => exact rfl); (case QoXo => exact rfl); (case QoXp => exact rfl); k_whole; intro ZoXh ZoXd ZoXi ZoXc ZoXb ZoXe ZoXa ZoXg ZoXf ZoXj; (try dsimp only [List.map_nil, List.map_cons] at ZoXj); (try dsimp only); (try k_lift ZoXa); (try k_fold)))
  k_with "callWith" => (((with_reducible show wpAny _ _ (callWith _ (Prod.fst _) (Prod.snd _) _ _) _ _ _); dsimp only))
  k_with "S_int" => (first | omega | decide | ((simp only [List.length_cons, List.length_nil, decide_eq_true_eq, decide_eq_false_iff_not, beq_iff_eq, beq_eq_false_iff_ne, ne_eq, Int.not_lt, Int.not_le] at *); omega))
  k_with "binaryOp FloorDiv int int" => (((with_reducible show wpAny _ _ (binaryOp _ (Value.int _ _) (Value.int _ _)) _ _ _); k_dflt (refine r_fdiv (by walk_at "S_int") (by walk_at "S_int") ?_); intro _ _))
  k_with "binaryOp Mod int int" => (((with_reducible show wpAny _ _ (binaryOp _ (Value.int _ _) (Value.int _ _)) _ _ _); k_dflt (refine r_fmod (by walk_at "S_int") ?_); intro _ _))
  k_with "S_item" => (((with_reducible show wpAny _ _ (subscriptTail _ _ (Value.str (S _) _) (Value.int _ _)) _ _ _); k_dflt (refine r_item (by walk_at "S_int") (by walk_at "S_int") (by walk_at "S_fit") ?_); intro _ _))
  k_with "subscriptTail Name BinOp str int" => (walk_at "S_item")
  k_with "subscriptTail Name Constant str int" => (walk_at "S_item")
  k_with "subscriptTail Name Name str int" => (walk_at "S_item")
  k_with "S_lit" => (first | (with_reducible exact lit_dots) | (with_reducible exact lit_empty) | (with_reducible exact lit34) | (with_reducible exact lit9234) | (with_reducible exact lit92) | (with_reducible exact lit10) | (with_reducible exact lit38) | (with_reducible exact lit59) | (with_reducible rfl))
  k_with "call builtin:str.replace" => (((with_reducible show wpAny _ _ (call (Value.builtin _) [Value.str (S _) _, Value.str _ _, Value.str _ _]) _ _ _); k_dflt (refine r_replace (by walk_at "S_lit") (by walk_at "S_lit") (by decide) (Nat.succ_ne_zero _) (Nat.succ_ne_zero _) (Nat.ne_of_lt (Nat.lt_succ_self _)) (by decide) (by walk_at "S_nn") ?_); intro _ _))
  k_with "call builtin:str.join" => ((k_here; (with_reducible show wpAny _ _ (call (Value.builtin _) [Value.str _ _, Value.ref _]) _ _ _); k_dflt (refine r_join (by walk_at "S_lit") (by walk_at "S_isl") (by walk_at "S_strs") (by walk_at "S_sum") ?_); intro _ _))
  k_with "S_isl" => (first | assumption | exact ⟨LCg.lst _, News.get (by k_asm) (by k_mem), rfl, _, rfl⟩ | is_list)
  k_with "S_strs" => (first | exact StrsAre.nil | assumption | (exact CharsAre.strs (by assumption)))
  k_with "binaryOp Mult str int" => (((with_reducible show wpAny _ _ (binaryOp _ (Value.str (S _) _) (Value.int _ _)) _ _ _); k_dflt (refine r_mul (by walk_at "S_int") (by walk_at "S_int") (by walk_at "S_nn") ?_); intro _ _))
  k_with "S_enterC" => ((refine' code_defCG ?Q13Xa ?Q13Xb ?Q13Xc ?Q13Xd ?Q13Xe ?Q13Xf ?Q13Xg ?Q13Xh ?Q13Xi ?Q13Xj ?Q13Xk ?Q13Xl ?Q13Xm ?Q13Xn ?_ ?Q13Xo ?Q13Xp ?Q13Xq; (case Q13Xf => exact rfl); (case Q13Xg => exact rfl); (case Q13Xh => assumption); (case Q13Xa => k_asm); (case Q13Xb => k_asm); (case Q13Xc => k_asm); (case Q13Xd => k_asm); (case Q13Xe => k_asm); (case Q13Xi => k_is); (case Q13Xj => k_is); (case Q13Xk => ktr_room); (case Q13Xl => exact BindsTo.of_eq rfl); (case Q13Xm => rfl); (case Q13Xn => decide); (case Q13Xo => exact rfl); (case Q13Xp => exact rfl); (case Q13Xq => exact rfl); k_whole; intro Z13Xj Z13Xd Z13Xk Z13Xo Z13Xi Z13Xc Z13Xb Z13Xe Z13Xh Z13Xa Z13Xg Z13Xf Z13Xm Z13Xl Z13Xn; (try dsimp only [List.map_nil, List.map_cons] at Z13Xl); (try k_lt Z13Xm); k_cells Z13Xh; (try simp only [List.cons_append, List.nil_append] at Z13Xe); (try dsimp only); (try k_lift Z13Xa); (try k_fold)))
  k_with "S_lcs" => ((k_here; k_dflt (refine ListComp_S (_F₀ := by k_asm) (by rfl) (by decide) (by rfl) (by decide) (by rfl) ?_)))
  k_with "S_lit" => (first | (with_reducible exact lit_dots) | (with_reducible exact lit_empty) | (with_reducible exact lit34) | (with_reducible exact lit9234) | (with_reducible exact lit92) | (with_reducible exact lit10) | (with_reducible exact lit38) | (with_reducible exact lit59) | (with_reducible exact lit60) | (with_reducible exact lit62) | (with_reducible exact lit13) | (with_reducible exact lit9) | (with_reducible exact litamp) | (with_reducible exact litlt) | (with_reducible exact litgt) | (with_reducible exact litquot) | (with_reducible rfl))
  k_with "S_sum" => (assumption)
  k_with "eval ListComp" => ((k_here; (with_reducible show wpAny _ _ (eval (PySem.Expr.ListComp _ [⟨PySem.Expr.Tuple _ _ _, _, [], 0⟩] _ _) _) _ _ _); k_dflt (refine ListComp_E (_F₀ := by k_asm) (by rfl) (by decide) (by rfl) (by decide) (by rfl) (by rfl) (by decide) ?_)))
  k_with "eval ListComp" => ((k_here; (with_reducible show wpAny _ _ (eval (PySem.Expr.ListComp _ [⟨PySem.Expr.Name _ _, _, [], 0⟩] _ _) _) _ _ _); k_dflt (refine LCg.ListComp_U (F₀ := by k_asm) (by rfl) (by decide) (by rfl) (by decide) (by rfl) ?_)))
  k_with "call type:enumerate" => (refine stop9 ?_)
  k_with "exec Assign cons ListComp" => ((k_here; k_dflt (refine wpAny_Assign_Name ?_ (by rfl))))
  k_with "CompSrc" => (refine stop9 ?_)
  k_with "CompEnd" => (refine stop9 ?_)
  k_with "FinE" => (((unfold LCg.FinE); intro Z1dXa Z1dXd Z1dXf Z1dXb Z1dXc Z1dXe; (try simp only [List.nil_append, List.cons_append] at Z1dXc); (try dsimp only)))
  k_with "FinA" => (((unfold LCg.FinA); intro Z1eXa Z1eXd Z1eXf Z1eXb Z1eXc Z1eXe; (try simp only [List.nil_append, List.cons_append] at Z1eXc); (try dsimp only)))
  k_with "m_k_ne" => (first | (refine neN ?_; (try dsimp only); omega) | exact off1_ne (by assumption) (by k_mem) | exact Ne.symm (off1_ne (by assumption) (by k_mem)))
  k_with "eval ListComp" => ((k_here; (with_reducible show wpAny _ _ (eval (PySem.Expr.ListComp _ [⟨PySem.Expr.Name _ _, _, [_], 0⟩] _ _) _) _ _ _); k_dflt (refine LCt.ListComp_T (F₀ := by k_asm) (by rfl) (by decide) (by rfl) (by decide) (by rfl) ?_)))
  k_with "CompSrcT" => (refine stop9 ?_)
  k_with "S_laps" => ((intro Z1iXf; obtain ⟨Z1iXa, Z1iXj, Z1iXi, Z1iXh, Z1iXc, Z1iXd, Z1iXe⟩ := Z1iXf; subst Z1iXh; (obtain ⟨Z1iXb, Z1iXg⟩ := news_add (by k_asm) (by k_asm) (by k_asm) Z1iXc Z1iXd)))
  k_with "S_il" => (((rename News _ _ _ _ => Z1jXa); exact ⟨_, News.get Z1jXa (by k_mem), rfl, _, rfl⟩))
  k_with "execs cons" => (((have _sf : StopH := by assumption); clear _sf; refine stop9 ?_))
  k_with "call ref" => (refine stop9 ?_)
  k_with "call ref" => ((k_here; k_dflt (walk_at "S_use"); intro Z1mXf Z1mXd Z1mXe Z1mXb; (have Z1mXa := Fr.keeps (by k_asm) Z1mXb); (have Z1mXc := News.grown (by k_asm) Z1mXb); walk_at "S_back" <;> ((try dsimp only); (try k_fold))))
  k_with "S_con" => (exact con_laps _ _ (by omega) (by assumption))
  k_with "S_back" => (walk_at "S_laps")
  k_with "exec While" => (refine stop9 ?_)
  k_with "call builtin:list.append" => (refine stop9 ?_)
  k_with "call builtin:len" => (((with_reducible show wpAny _ _ (call (Value.builtin "len") [Value.ref _]) _ _ _); k_dflt (refine' r_lenI ?Q1rXa ?Q1rXb ?Q1rXc ?_; (case Q1rXa => walk_at "S_il"); (case Q1rXb => assumption); (case Q1rXc => omega)); intro _ _))
  k_with "subscriptTail Name UnaryOp ref int" => (((with_reducible show wpAny _ _ (subscriptTail _ _ (Value.ref _) (Value.int (-2) _)) _ _ _); k_dflt (refine' r_item2 ?Q1sXa ?Q1sXb ?Q1sXc ?_ ?Q1sXd; (case Q1sXa => walk_at "S_il"); (case Q1sXb => assumption); (case Q1sXc => omega); (case Q1sXd => with_unfolding_all rfl)); intro _))
  k_with "m_k_all" => (exact tail7 (by assumption) (by assumption) (by assumption) (by omega) (by omega))
  k_with "eval IfExp" => (((have Z1uXa : StopI := by assumption); clear Z1uXa; refine stop9 ?_))
  trivial
theorem tail7 {P : Params} {r : RP} {lf : List Value} {kl : Nat} {tlx : List (Addr × Obj)} {D c L : Addr} (ok : r.Ok) (la : @LT.lt Nat _ r.aP L) (h : ∀ p ∈ tlx, @LT.lt Nat _ D p.1) (h1 : @LE.le Nat _ L c) (h2 : @LE.le Nat _ c D) : ∀ p ∈ rdr7 154 P r lf kl ++ tlx, p.1 ≠ c := fun p hp => by
  rcases List.mem_append.mp hp with hp | hp
  · exact fun e => notin_gt (l := 154) (P := P) (ln := 0) (tl := 0) (pb := []) (kp := 0) (lf := lf) (kl := kl) ok (Nat.lt_of_lt_of_le la h1) (e ▸ List.mem_map.mpr ⟨p, .tail _ (.tail _ (.tail _ hp)), rfl⟩)
  · exact tail_ne h h2 p hp
noncomputable def StrAt (x : List Nat) (g : Heap) (L : Addr) (m : PySem.Str → Option Value) (LL : List (Addr × Obj)) (gns : Array GenState) (dr : Drawn) (os : OsState) (v : Value) (z : Shared) : Prop :=
  ∃ tok tk h, v = Value.str (S x) tok ∧ z = ⟨h, gns, dr, tk, os⟩ ∧ Fr g L h m ∧ News g L h LL
theorem StrAt.join {M : Model} {A : Around} {e : Sem Value} {E : Value → Shared → Prop} {K : Value → Shared → Prop} {s : Shared} {x : List Nat} {g h : Heap} {L : Addr} {m : PySem.Str → Option Value} {LL : List (Addr × Obj)} {gns : Array GenState} {dr : Drawn} {os : OsState} (_ : Fr g L h m) (_ : News g L h LL)
    (ev : wpAny M A e (StrAt x g L m LL gns dr os) E s) (cont : ∀ tok tk h, Fr g L h m → News g L h LL → K (Value.str (S x) tok) ⟨h, gns, dr, tk, os⟩) : wpAny M A e K E s :=
  wpAny_mono ev (fun _ _ ⟨tok, tk, h, e1, e2, F, N⟩ => by subst e1; subst e2; exact cont tok tk h F N) fun _ _ h => h
theorem two1 {w : World} {p loose mean mg mb} {dp un : Nat} {gd : Option (List Code)} {L fa : Addr} {ccd : Value} {outer : List Env} {A₀ : Around} {base g : Heap} {m : PySem.Str → Option Value} {s : Shared} {Q : Flow → Shared → Prop} {E : Value → Shared → Prop}
    (o1 o2 o3 o4 : Obj) (r : RP) (ok : r.Ok) (ln : Int) (tl : Tok) (lf : List Value) (kl : Nat) (kp : Nat) (txt : List Nat) (a b : Nat) (tt ta tb : Tok) (hx9 : txt.length ≤ 9) (hx1 : txt ≠ []) (hfr : 46 ∉ txt) (ha : a ≠ 46) (hb : b ≠ 46) (la : @LT.lt Nat _ r.aP L) (d2 : o2.data = .cell none) (Dc D9 : Addr) (vs9 : List Value) (k9 : Nat) (tn : Tok) (lc : @LT.lt Nat _ (L + 1 + 1 + 1 + 1) Dc) (l9 : Off1 D9 ((Dc, listOf ([]).toArray 0) :: (L + 1 + 1 + 1 + 1, o4) :: (L + 1 + 1 + 1, o3) :: (L + 1 + 1, o2) :: (L + 1, o1) :: (r.aP, listOf (([] : List Value)).toArray kp) :: (r.aR, instObj 59 r.dR) :: (r.dR, dictOf [ent w.params "lineno" r.t1 (.int (ln) tl), ent w.params "instream" r.t2 (.ref r.aS), ent w.params "whitespace" r.t3 (.str wsT r.t4), ent w.params "pushback" r.t5 (.ref r.aP)] 4) :: (rdr7 154 w.params r lf kl ++ []))) (hI : IntsAre vs9 (nI (lapsL txt))) (fin : List (Nat × Nat) × List Nat) (hfin : chainL txt.length txt [] = fin)
    (n1 : m (PySem.Str.ofString "reader") = some (.ref r.aR)) (n3 : m (PySem.Str.ofString "one") = some (.str (S [a]) ta)) (n4 : m (PySem.Str.ofString "chain") = some (.ref Dc)) (n5 : m (PySem.Str.ofString "now") = some (.str (S txt) tn)) (n6 : m (PySem.Str.ofString "laps") = some (.ref D9))
    (hE : PassesOwn (model Challenge.pw_sc0056_01 w) (twoA dp un gd L fa ccd outer) (twoEnv L fa ccd) E) (hB : Below A₀ base outer g) (hF : Fr g L s.heap m) (hX : (hd.heap_1 w.params).In g) (hT : Top p loose mean mg mb g) (hr : dp + 16 < recursionLimit) (hu : un + 16 * 16 < cLine) (hC : CodeHd base 111 107) (hN : News g L s.heap ((D9, listOf (vs9).toArray k9) :: (Dc, listOf ([]).toArray 0) :: (L + 1 + 1 + 1 + 1, o4) :: (L + 1 + 1 + 1, o3) :: (L + 1 + 1, o2) :: (L + 1, o1) :: (r.aP, listOf (([] : List Value)).toArray kp) :: (r.aR, instObj 59 r.dR) :: (r.dR, dictOf [ent w.params "lineno" r.t1 (.int (ln) tl), ent w.params "instream" r.t2 (.ref r.aS), ent w.params "whitespace" r.t3 (.str wsT r.t4), ent w.params "pushback" r.t5 (.ref r.aP)] 4) :: (rdr7 154 w.params r lf kl ++ [])))
    (next : ∀ (h' : Heap) (tk' : Nat) (m' : PySem.Str → Option Value) (tn : Tok) (cvs : List Value) (kc : Nat) (tlx : List (Addr × Obj)) (kp : Nat) (o2 : Obj) (v2 : Option Value) (D9 : Addr) (vs9 : List Value) (k9 : Nat), ChainAre cvs tlx fin.1 → cvs.length ≤ 9 → (∀ p ∈ tlx, @LT.lt Nat _ Dc p.1) → o2.data = .cell v2 → fin.2 ≠ [] → fin.2.length ≤ 9 → 46 ∉ fin.2 →
      m' (PySem.Str.ofString "reader") = some (.ref r.aR) → m' (PySem.Str.ofString "one") = some (.str (S [a]) ta) → m' (PySem.Str.ofString "chain") = some (.ref Dc) → m' (PySem.Str.ofString "now") = some (.str (S fin.2) tn) →  Fr g L h' m' → News g L h' ((D9, listOf (vs9).toArray k9) :: (Dc, listOf (cvs).toArray kc) :: (L + 1 + 1 + 1 + 1, o4) :: (L + 1 + 1 + 1, o3) :: (L + 1 + 1, o2) :: (L + 1, o1) :: (r.aP, listOf (([] : List Value)).toArray kp) :: (r.aR, instObj 59 r.dR) :: (r.dR, dictOf [ent w.params "lineno" r.t1 (.int (ln) tl), ent w.params "instream" r.t2 (.ref r.aS), ent w.params "whitespace" r.t3 (.str wsT r.t4), ent w.params "pushback" r.t5 (.ref r.aP)] 4) :: (rdr7 154 w.params r lf kl ++ tlx)) →
      wpAny (model Challenge.pw_sc0056_01 w) (twoA dp un gd L fa ccd outer) (execs (twoBody.drop 5) (twoEnv L fa ccd)) Q E { s with heap := h', toks := tk' }) :
    wpAny (model Challenge.pw_sc0056_01 w) (twoA dp un gd L fa ccd outer) (execs (twoBody.drop 4) (twoEnv L fa ccd)) Q E s := by
  have ok' := ok
  obtain ⟨q1, q2, q3, q4, q5, q6, q7, q8, q9, q10, q11, q12⟩ := ok'
  obtain ⟨hp, gns, dr, tk, os⟩ := s
  conv in (List.drop _ twoBody) => whnf
  (try clear sfl)
  walk1
  ((try clear sfl); have sfl : StopH := trivial)
  k_steps
  refine Stop9.go ?_
  k_dflt (refine While_inv (J := fun n m news => ∃ (t : List Nat) (tn : Tok) (D9 : Addr) (vs9 : List Value) (k9 : Nat) (cvs : List Value) (kc : Nat) (tlx : List (Addr × Obj)) (ch : List (Nat × Nat)) (kp : Nat) (o2 : Obj) (v2 : Option Value), t.length ≤ n ∧ t.length ≤ 9 ∧ t ≠ [] ∧ 46 ∉ t ∧ chainL n t ch = fin ∧ IntsAre vs9 (nI (lapsL t)) ∧ ChainAre cvs tlx ch ∧ cvs.length + n ≤ 9 ∧ (∀ p ∈ tlx, @LT.lt Nat _ Dc p.1) ∧ o2.data = .cell v2 ∧
      m (PySem.Str.ofString "reader") = some (.ref r.aR) ∧ m (PySem.Str.ofString "one") = some (.str (S [a]) ta) ∧ m (PySem.Str.ofString "chain") = some (.ref Dc) ∧ m (PySem.Str.ofString "now") = some (.str (S t) tn) ∧ m (PySem.Str.ofString "laps") = some (.ref D9) ∧ Off1 D9 ((Dc, listOf (cvs).toArray kc) :: (L + 1 + 1 + 1 + 1, o4) :: (L + 1 + 1 + 1, o3) :: (L + 1 + 1, o2) :: (L + 1, o1) :: (r.aP, listOf (([] : List Value)).toArray kp) :: (r.aR, instObj 59 r.dR) :: (r.dR, dictOf [ent w.params "lineno" r.t1 (.int (ln) tl), ent w.params "instream" r.t2 (.ref r.aS), ent w.params "whitespace" r.t3 (.str wsT r.t4), ent w.params "pushback" r.t5 (.ref r.aP)] 4) :: (rdr7 154 w.params r lf kl ++ tlx)) ∧ news = (D9, listOf (vs9).toArray k9) :: (Dc, listOf (cvs).toArray kc) :: (L + 1 + 1 + 1 + 1, o4) :: (L + 1 + 1 + 1, o3) :: (L + 1 + 1, o2) :: (L + 1, o1) :: (r.aP, listOf (([] : List Value)).toArray kp) :: (r.aR, instObj 59 r.dR) :: (r.dR, dictOf [ent w.params "lineno" r.t1 (.int (ln) tl), ent w.params "instream" r.t2 (.ref r.aS), ent w.params "whitespace" r.t3 (.str wsT r.t4), ent w.params "pushback" r.t5 (.ref r.aP)] 4) :: (rdr7 154 w.params r lf kl ++ tlx)) (n₀ := txt.length) hF hN ?start ?turn hE)
  case start => exact ⟨txt, tn, D9, vs9, k9, [], 0, [], [], kp, o2, none, Nat.le_refl _, hx9, hx1, hfr, hfin, hI, .nil, by simpa using hx9, by simp, d2, n1, n3, n4, n5, n6, l9, rfl⟩
  case turn =>
    clear hF hN n1 n3 n4 n5 n6 l9 hI
    rintro n m1 news1 h1 tk1 F1 N1 ⟨t, tn1, E9, ws9, j9, cvs, kc, tlx, ch, kp1, o2', v2, e1, e2, e3, e4, e5, e6, e7, e8, e9, d2', n1, n3, n4, n5, n6, l9, rfl⟩
    have hll := laps_le t
    ((try clear sfl); have sfl : StopH := trivial)
    dsimp only
    k_steps
    · rename 1 < _ => hlt0
      have hlt : 1 < (lapsL t).length := by omega
      clear hlt0
      have hbl := bord_lt hlt
      have hst := stp_pos hlt
      obtain ⟨k, rfl⟩ : ∃ k, n = k + 1 := ⟨n - 1, by omega⟩
      rw [chain_go hlt] at e5
      have hnx := nxt_lt hlt
      have hmd : (0 : Int) ≤ ((t.length : Nat) : Int) % ((stp t : Nat) : Int) := Int.emod_nonneg _ (by omega)
      refine Stop9.go ?_
      (try clear sfl)
      k_steps
      rename Fr _ _ _ _ => F5
      rename News _ _ _ _ => N5
      rename _ = Data.cell (some (Value.int _ _)) => d2''
      rw [step_int hbl.2.1] at N5 d2''
      obtain ⟨T, rfl⟩ := head_addr N5
      obtain ⟨p2, rfl⟩ := name_obj d2''
      rename @LT.lt Nat _ E9 T ∧ _ => lT
      have NA := news_ins (A := (Dc, listOf cvs.toArray kc) :: ([(L + 1 + 1 + 1 + 1, o4), (L + 1 + 1 + 1, o3), (L + 1 + 1, p2), (L + 1, o1), (r.aP, listOf (([] : List Value)).toArray kp1), (r.aR, instObj 59 r.dR), (r.dR, dictOf [ent w.params "lineno" r.t1 (.int (ln) tl), ent w.params "instream" r.t2 (.ref r.aS), ent w.params "whitespace" r.t3 (.str wsT r.t4), ent w.params "pushback" r.t5 (.ref r.aP)] 4)] ++ rdr7 154 w.params r lf kl)) (tl := tlx) (fun q hq => N5 q (.tail _ (.tail _ hq))) (news_sub N5 (by lcg_sub))
      clear N5
      dsimp only [List.cons_append, List.nil_append] at NA
      refine Stop9.go ?_
      k_dflt (refine' append_K F5 NA ?ua ?_ ?uz)
      case ua =>
        refine Upd.head ?_
        refine List.forall_mem_cons.mpr ⟨by (refine neN ?_; (try dsimp only); omega), ?_⟩
        refine List.forall_mem_cons.mpr ⟨by (refine neN ?_; (try dsimp only); omega), ?_⟩
        refine List.forall_mem_cons.mpr ⟨by (refine neN ?_; (try dsimp only); omega), ?_⟩
        refine List.forall_mem_cons.mpr ⟨by (refine neN ?_; (try dsimp only); omega), ?_⟩
        refine List.forall_mem_cons.mpr ⟨by (refine neN ?_; (try dsimp only); omega), ?_⟩
        refine List.forall_mem_cons.mpr ⟨by (refine neN ?_; (try dsimp only); omega), ?_⟩
        refine List.forall_mem_cons.mpr ⟨by (refine neN ?_; (try dsimp only); omega), ?_⟩
        exact tail7 ok la (D := Dc) (fun p hp => by
          rcases List.mem_cons.mp hp with rfl | hp
          · dsimp only; omega
          · exact e9 p hp) (by omega) (Nat.le_refl _)
      case uz => rw [List.size_toArray, PySem.sizeLine_eq]; omega
      intro h' F' N'
      rw [List.push_toArray] at N'
      clear F5 NA
      dsimp only
      have sgl : StopI := rfl
      k_steps
      clear sgl
      rename Fr _ _ _ _ => F5
      rename News _ _ _ _ => N5
      refine Stop9.go (StrAt.join (x := nxt t) (gns := gns) (dr := dr) (os := os) F5 N5 ?ev ?cont)
      case ev =>
        k_steps
        · rename 2 * _ ≤ _ => hq
          rw [nxt_a hq]
          exact ⟨_, _, _, rfl, rfl, by assumption, by assumption⟩
        · rename ¬ 2 * _ ≤ _ => hq
          rw [nxt_b hq]
          exact ⟨_, _, _, rfl, rfl, by assumption, by assumption⟩
      case cont =>
        intro tok9 tk9 h9 F5 N5
        k_steps
        refine Stop9.go (wpAny_call ?_)
        rename Fr _ _ _ _ => F5
        rename News _ _ _ _ => N5
        k_dflt (refine con_push r ok ln tl (kp1) lf kl (nxt t) _ _ _ _ _ _ _ _ _ _ _ _ _ _ _ ⟨_, _, _, _, _⟩ _ _ hB F5 hX hT ?kka1 ?kra1 ?kua1 hC (news_sub N5 fun q hq => List.mem_append_right ((Dc, listOf (cvs ++ [Value.ref T]).toArray (kc + 1)) :: [(L + 1 + 1 + 1 + 1, o4), (L + 1 + 1 + 1, o3), (L + 1 + 1, p2), (L + 1, o1)]) (List.mem_append_left (_ :: tlx) hq)) fun v post ha1 tka1 F' N' K' R => ?_)
        case kka1 => rfl
        case kra1 => ktr_room
        case kua1 => ktr_units
        obtain ⟨rfl, rfl⟩ := R
        have Noa1 : News g L ha1 ((Dc, listOf (cvs ++ [Value.ref T]).toArray (kc + 1)) :: (L + 1 + 1 + 1 + 1, o4) :: (L + 1 + 1 + 1, o3) :: (L + 1 + 1, p2) :: (L + 1, o1) :: (r.aP, listOf ([Value.str (S (nxt t)) _]).toArray (kp1 + 1)) :: (r.aR, instObj 59 r.dR) :: (r.dR, dictOf [ent w.params "lineno" r.t1 (.int (ln) tl), ent w.params "instream" r.t2 (.ref r.aS), ent w.params "whitespace" r.t3 (.str wsT r.t4), ent w.params "pushback" r.t5 (.ref r.aP)] 4) :: (rdr7 154 w.params r lf kl ++ _ :: tlx)) := con_own3 (A := ((Dc, listOf (cvs ++ [Value.ref T]).toArray (kc + 1)) :: [(L + 1 + 1 + 1 + 1, o4), (L + 1 + 1 + 1, o3), (L + 1 + 1, p2), (L + 1, o1)])) (B := _ :: tlx) (pre := rdr 154 w.params r ln tl [] (kp1) lf kl) N5 K' N' (fun p hp => notin_gt ok (by
          simp only [List.mem_cons, List.not_mem_nil, or_false] at hp
          rcases hp with rfl | rfl | rfl | rfl | rfl <;> (dsimp only; omega))) (fun p hp => notin_gt ok (by
          rcases List.mem_cons.mp hp with rfl | hp
          · dsimp only; omega
          · exact Nat.lt_trans (by omega) (e9 p hp)))
        clear N5 F5 N' K'
        (try dsimp only [List.cons_append, List.nil_append])
        k_steps
        refine Stop9.go (wpAny_call ?_)
        rename Fr _ _ _ _ => F5
        rename News _ _ _ _ => N5
        k_dflt (refine con_gtp r ok ln tl (kp1 + 1) lf kl (nxt t) _ _ _ _ _ _ _ _ _ _ _ _ _ _ _ ⟨_, _, _, _, _⟩ _ _ hB F5 hX hT ?kka2 ?kra2 ?kua2 hC (news_sub N5 fun q hq => List.mem_append_right ((Dc, listOf (cvs ++ [Value.ref T]).toArray (kc + 1)) :: [(L + 1 + 1 + 1 + 1, o4), (L + 1 + 1 + 1, o3), (L + 1 + 1, p2), (L + 1, o1)]) (List.mem_append_left (_ :: tlx) hq)) fun v post ha2 tka2 F' N' K' R => ?_)
        case kka2 => rfl
        case kra2 => ktr_room
        case kua2 => ktr_units
        obtain ⟨rfl, rfl⟩ := R
        have Noa2 : News g L ha2 ((Dc, listOf (cvs ++ [Value.ref T]).toArray (kc + 1)) :: (L + 1 + 1 + 1 + 1, o4) :: (L + 1 + 1 + 1, o3) :: (L + 1 + 1, p2) :: (L + 1, o1) :: (r.aP, listOf (([] : List Value)).toArray (kp1 + 1 + 1)) :: (r.aR, instObj 59 r.dR) :: (r.dR, dictOf [ent w.params "lineno" r.t1 (.int (ln) tl), ent w.params "instream" r.t2 (.ref r.aS), ent w.params "whitespace" r.t3 (.str wsT r.t4), ent w.params "pushback" r.t5 (.ref r.aP)] 4) :: (rdr7 154 w.params r lf kl ++ _ :: tlx)) := con_own3 (A := ((Dc, listOf (cvs ++ [Value.ref T]).toArray (kc + 1)) :: [(L + 1 + 1 + 1 + 1, o4), (L + 1 + 1 + 1, o3), (L + 1 + 1, p2), (L + 1, o1)])) (B := _ :: tlx) (pre := rdr 154 w.params r ln tl [.str (S (nxt t)) _] (kp1 + 1) lf kl) N5 K' N' (fun p hp => notin_gt ok (by
          simp only [List.mem_cons, List.not_mem_nil, or_false] at hp
          rcases hp with rfl | rfl | rfl | rfl | rfl <;> (dsimp only; omega))) (fun p hp => notin_gt ok (by
          rcases List.mem_cons.mp hp with rfl | hp
          · dsimp only; omega
          · exact Nat.lt_trans (by omega) (e9 p hp)))
        clear N5 F5 N' K'
        (try dsimp only [List.cons_append, List.nil_append])
        have hfx := nxt_free e4
        have hl9 : (nxt t).length ≤ 900 := by omega
        k_steps
        rename Fr _ _ _ _ => F6
        rename News _ _ _ _ => N6
        rename AllNe _ _ => al6
        rename IntsAre _ (nI (lapsL (nxt t))) => hI6
        refine WhileStep.intro F6 N6 (Nat.lt_succ_self k) ⟨nxt t, _, _, _, _, cvs ++ [Value.ref T], kc + 1, _, ch ++ [(t.length, stp t)], kp1 + 1 + 1, p2, _, by omega, by omega, (fun q => by rw [q] at hnx; exact absurd hnx.2 (by decide)), hfx, e5, hI6, .snoc T _ _ _ _ e7, (by rw [List.length_append, List.length_singleton]; omega), (fun p hp => ?_), d2'', (by exact n1), (by exact n3), (by exact n4), (by rfl), (by rfl), allNe_off al6, rfl⟩
        rcases List.mem_cons.mp hp with rfl | hp
        · dsimp only; omega
        · exact e9 p hp
    · rename ¬ 1 < _ => hlt0
      have hlt : ¬ 1 < (lapsL t).length := by omega
      rw [chain_stop hlt] at e5
      subst e5
      rename Fr _ _ _ _ => F6
      rename News _ _ _ _ => N6
      exact Stop9.go (next _ _ _ tn1 cvs kc tlx kp1 o2' v2 E9 ws9 j9 e7 (by omega) e9 d2' e3 e2 e4 n1 n3 n4 n5 F6 N6)
end
section
example : True := by
  k_with_none
  w_top off
  k_with "olt" => (first | assumption | ((fail_if_success refine oM ?_); refine oL ?_; k_extra "ole") | k_extra "olh")
  k_with "olh" => (refine oH (by assumption) (by k_extra "ole"))
  k_with "ole" => (first | exact Nat.le_refl _ | assumption | exact oB | ((first | refine oA ?_ | refine oA2 ?_ | refine oA3 ?_); k_extra "ocl") | (refine oS ?_; k_extra "ole") | (refine Nat.le_of_lt ?_; (first | assumption | k_extra "olh")) | exact oE)
  k_with "olt2" => (first | k_extra "oas" | ((fail_if_success refine oM ?_); refine oL ?_; k_extra "ole2") | k_extra "olh2")
  k_with "olh2" => (refine oH (by k_extra "oas") (by k_extra "ole2"))
  k_with "ole2" => (first | exact Nat.le_refl _ | k_extra "oas" | exact oB | ((first | refine oA ?_ | refine oA2 ?_ | refine oA3 ?_); k_extra "ocl") | (refine oS ?_; k_extra "ole2") | (refine Nat.le_of_lt ?_; (first | k_extra "oas" | k_extra "olh2")) | exact oE)
  k_with "opu" => (first | exact oB | exact Nat.le_refl _ | (refine oS ?_; k_extra "opu"))
  k_with "olt0" => (refine oL ?_; k_extra "opu")
  k_with "one" => (first | (refine Nat.ne_of_gt ?_; (fail_if_success refine oM ?_); k_extra "olt0") | (refine Nat.ne_of_lt ?_; (fail_if_success refine oM ?_); k_extra "olt0") | exact Ne.symm (by assumption) | (refine Nat.ne_of_gt ?_; (fail_if_success refine oM ?_); k_extra "oas") | (refine Nat.ne_of_lt ?_; (fail_if_success refine oM ?_); k_extra "oas") | (refine Nat.ne_of_gt ?_; (fail_if_success refine oM ?_); k_extra "odd") | (refine Nat.ne_of_lt ?_; (fail_if_success refine oM ?_); k_extra "odd") | (refine Nat.ne_of_gt ?_; (fail_if_success refine oM ?_); k_extra "olt") | (refine Nat.ne_of_lt ?_; (fail_if_success refine oM ?_); k_extra "olt") | (refine Nat.ne_of_gt ?_; (fail_if_success refine oM ?_); k_extra "olt2") | (refine Nat.ne_of_lt ?_; (fail_if_success refine oM ?_); k_extra "olt2") | decide)
  k_with "ol1" => (first | ((fail_if_success refine oM ?_); first | k_extra "oas" | k_extra "olt0" | k_extra "odd" | k_extra "olt" | k_extra "olt2") | k_extra "ocl" | exact oT0 | exact oT5)
  k_with "oe1" => (first | ((fail_if_success refine oN ?_); first | k_extra "oas" | k_extra "opu" | k_extra "ole" | k_extra "ole2" | exact oE (by k_extra "oas")) | k_extra "ocl" | k_extra "olit" | k_extra "oas")
  k_with "olit" => (first | exact oT4 | exact oP | exact oP2 | exact oT1 | exact oT2 | exact oT3 | exact oQ5 | exact oQ1 | exact oQ2 | exact oQ3 | exact oQ4 | exact oQ6 | exact oD)
  k_with "ocl" => (with_unfolding_all exact Nat.le_of_ble_eq_true rfl)
  k_with "oas" => (first | assumption | exact oa1 | exact ob1 | exact oa2 | exact ob2 | exact oa3 | exact ob3 | exact oa4 | exact ob4 | exact oa5 | exact ob5 | exact oa6 | exact ob6 | exact oa7 | exact ob7)
  k_with "odd" => (first | exact oa1 ob7 | exact oa2 ob7 | exact oa3 ob7 | exact oa4 ob7 | exact oa5 ob7 | exact oa6 ob7 | exact oa7 ob7 | exact oa1 (ob7 ob7) | exact oa2 (ob7 ob7) | exact oa3 (ob7 ob7) | exact oa4 (ob7 ob7) | exact oa5 (ob7 ob7) | exact oa6 (ob7 ob7) | exact oa7 (ob7 ob7) | exact ob1 ob7 | exact ob2 ob7 | exact ob3 ob7 | exact ob4 ob7 | exact ob5 ob7 | exact ob6 ob7 | exact ob7 ob7)
  k_with "oin" => (first | decide | exact oI1 | exact oI3 | exact oI2 (by k_extra "oas"))
  k_with "om" => (with_reducible first | (first | assumption | ((fail_if_success fail_if_success refine oXn ?_); k_extra "one") | ((fail_if_success fail_if_success refine oXl ?_); k_extra "ol1") | ((fail_if_success fail_if_success refine oXe ?_); k_extra "oe1") | k_extra "oin") | fail)
  k_with "S_fit" => (first | omega | ((simp only [S_len, List.length_append, List.length_cons, List.length_nil, List.length_take, List.length_drop, dots, PySem.sizeLine_eq]); omega))
  k_with "call builtin:len" => (((with_reducible show wpAny _ _ (call (Value.builtin "len") [Value.str (S _) _]) _ _ _); refine r_len (by walk_at "S_fit") ?_))
  k_with "call builtin:str.startswith" => (((with_reducible show wpAny _ _ (call (Value.builtin "str.startswith") [Value.str (S _) _, Value.str (S _) _]) _ _ _); refine r_starts ?_))
  k_with "call builtin:str.endswith" => (((with_reducible show wpAny _ _ (call (Value.builtin "str.endswith") [Value.str (S _) _, Value.str (S _) _]) _ _ _); refine r_ends ?_))
  k_with "truthy str" => (((with_reducible show wpAny _ _ (truthy (Value.str (S _) _)) _ _ _); refine r_truthy (by walk_at "S_fit") ?_))
  k_with "exec For Name Name cons nil" => ((k_here; (rename Fr _ _ _ _ => Z6Xa); (with_unfolding_all refine' For_invVF Z6Xa ?Q6Xa ?Q6Xb ?_; (case Q6Xa => exact rfl); (case Q6Xb => exact rfl); k_whole)))
  k_with "pyIter ref" => (((with_reducible show wpAny _ _ (pyIter (Value.ref _)) (fun it s₂ => LoopAtV _ _ _ _ _ _ _ _ _ it s₂) _ _); k_listUnr))
  k_with "S_enter" => ((refine' code_defG (news := []) ?Q8Xa ?Q8Xb ?Q8Xc ?Q8Xd ?Q8Xe ?Q8Xf ?Q8Xg ?Q8Xh ?Q8Xi ?Q8Xj ?Q8Xk ?Q8Xl ?Q8Xm ?_ ?Q8Xn ?Q8Xo ?Q8Xp ?Q8Xq; (case Q8Xf => exact rfl); (case Q8Xg => exact rfl); (case Q8Xh => assumption); (case Q8Xa => k_asm); (case Q8Xb => k_asm); (case Q8Xc => k_asm); (case Q8Xd => exact News.nil); (case Q8Xe => k_asm); (case Q8Xi => k_is); (case Q8Xj => k_is); (case Q8Xk => ktr_room); (case Q8Xl => exact BindsTo.of_eq rfl); (case Q8Xq => decide); (case Q8Xm => exact locs rfl); (case Q8Xn => exact rfl); (case Q8Xo => exact rfl); (case Q8Xp => exact rfl); k_whole; intro Z8Xh Z8Xd Z8Xi Z8Xc Z8Xb Z8Xe Z8Xa Z8Xg Z8Xf Z8Xj; (try dsimp only [List.map_nil] at Z8Xj); (try dsimp only); (try k_lift Z8Xa); (try k_fold)))
  k_with "S_look" => (first | exact rfl | assumption | exact (if_pos rfl) | (refine (if_neg (by decide)).trans ?_; walk_at "S_look"))
  k_with "eval Name" => ((k_here; k_dflt (refine' nameX_L ?QaXa ?QaXb ?_ ?QaXc ?QaXd; (case QaXa => k_asm); (case QaXc => rfl); (case QaXd => rfl); (case QaXb => walk_at "S_look"); k_whole)))
  k_with "S_lit" => (first | (with_reducible exact lit_dots) | (with_reducible rfl))
  k_with "S_nn" => (first | omega | ((simp only [List.length_append, List.length_cons, List.length_nil, List.length_take, List.length_drop, dots] at *); omega))
  k_with "binaryOp Add str str" => (((with_reducible show wpAny _ _ (binaryOp _ (Value.str _ _) (Value.str _ _)) _ _ _); k_dflt (refine r_add (by walk_at "S_lit") (by walk_at "S_lit") (by walk_at "S_fit") ?_); intro _ _))
  k_with "subscriptTail Name Slice str ref" => (((with_reducible show wpAny _ _ (subscriptTail _ (Expr.Slice none (some _) none _) (Value.str (S _) _) _) _ _ _); (with_reducible rename Fr _ _ _ _ => ZeXa); (with_reducible rename News _ _ _ _ => ZeXb); (refine r_sliceTo (s := ⟨_, _, _, _, _⟩) ZeXa ZeXb (by walk_at "S_nn") (by walk_at "S_fit") ?_); intro _ _ _ _ _))
  k_with "subscriptTail Name Slice str ref" => (((with_reducible show wpAny _ _ (subscriptTail _ (Expr.Slice (some _) none none _) (Value.str (S _) _) _) _ _ _); (with_reducible rename Fr _ _ _ _ => ZfXa); (with_reducible rename News _ _ _ _ => ZfXb); (refine r_sliceFrom (s := ⟨_, _, _, _, _⟩) ZfXa ZfXb (by walk_at "S_nn") (by walk_at "S_fit") ?_); intro _ _ _ _ _))
  k_with "exec For Name Call cons nil" => ((k_here; (rename Fr _ _ _ _ => ZgXa); (with_unfolding_all refine' For_invVF ZgXa ?QgXa ?QgXb ?_; (case QgXa => exact rfl); (case QgXb => exact rfl); k_whole)))
  k_with "S_use" => ((refine' pcon_use ?QhXa ?QhXb ?QhXc ?QhXd ?QhXe ?QhXf ?QhXg ?QhXh ?_; (case QhXb => k_asm); (case QhXc => k_asm); (case QhXd => k_asm); (case QhXe => k_asm); (case QhXa => walk_at "S_con"); (case QhXf => first | exact rfl | assumption); (case QhXg => ktr_room); (case QhXh => ktr_units)))
  k_with "call ref" => ((k_here; k_dflt (walk_at "S_use"); intro ZiXf ZiXd ZiXe ZiXb; (have ZiXa := Fr.keeps (by k_asm) ZiXb); (have ZiXc := News.grown (by k_asm) ZiXb); walk_at "S_back" <;> ((try dsimp only); (try k_fold))))
  k_with "pyIter ref" => (k_extra "S_loop")
  k_with "S_bool" => ((intro ZkXa; (rcases bool_or ZkXa with ⟨R8, R7⟩ | ⟨R8, R7⟩) <;> subst R7))
  k_with "call builtin:list.append" => ((k_here; (with_reducible show wpAny _ _ (call (Value.builtin _) [Value.ref _, _]) _ _ _); k_dflt (refine' append_K ?QlXa ?QlXb ?QlXc ?_ ?QlXd; (case QlXa => k_asm); (case QlXb => k_asm); (case QlXc => k_upd); (case QlXd => exact size_ok (k := 100000) (by omega) (by decide)); k_whole); intro ZlXc ZlXa ZlXb; (try k_sweep)))
  k_with "m_k_room" => (ktr_room)
  k_with "m_k_units" => (ktr_units)
  k_with "S_enterM" => ((refine' code_defG ?QoXa ?QoXb ?QoXc ?QoXd ?QoXe ?QoXf ?QoXg ?QoXh ?QoXi ?QoXj ?QoXk ?QoXl ?QoXm ?_ ?QoXn ?QoXo ?QoXp ?QoXq; (case QoXf => exact rfl); (case QoXg => exact rfl); (case QoXh => assumption); (case QoXa => k_asm); (case QoXb => k_asm); (case QoXc => k_asm); (case QoXd => k_asm); (case QoXe => k_asm); (case QoXi => k_is); (case QoXj => k_is); (case QoXk => ktr_room); (case QoXl => exact BindsTo.of_eq rfl); (case QoXq => decide); (case QoXm => exact locs rfl); (case QoXn => exact rfl); (case QoXo => exact rfl); (case QoXp => exact rfl); k_whole; intro ZoXh ZoXd ZoXi ZoXc ZoXb ZoXe ZoXa ZoXg ZoXf ZoXj; (try dsimp only [List.map_nil, List.map_cons] at ZoXj); (try dsimp only); (try k_lift ZoXa); (try k_fold)))
  k_with "callWith" => (((with_reducible show wpAny _ _ (callWith _ (Prod.fst _) (Prod.snd _) _ _) _ _ _); dsimp only))
  k_with "S_int" => (first | omega | decide | ((simp only [List.length_cons, List.length_nil, decide_eq_true_eq, decide_eq_false_iff_not, beq_iff_eq, beq_eq_false_iff_ne, ne_eq, Int.not_lt, Int.not_le] at *); omega))
  k_with "binaryOp FloorDiv int int" => (((with_reducible show wpAny _ _ (binaryOp _ (Value.int _ _) (Value.int _ _)) _ _ _); k_dflt (refine r_fdiv (by walk_at "S_int") (by walk_at "S_int") ?_); intro _ _))
  k_with "binaryOp Mod int int" => (((with_reducible show wpAny _ _ (binaryOp _ (Value.int _ _) (Value.int _ _)) _ _ _); k_dflt (refine r_fmod (by walk_at "S_int") ?_); intro _ _))
  k_with "S_item" => (((with_reducible show wpAny _ _ (subscriptTail _ _ (Value.str (S _) _) (Value.int _ _)) _ _ _); k_dflt (refine r_item (by walk_at "S_int") (by walk_at "S_int") (by walk_at "S_fit") ?_); intro _ _))
  k_with "subscriptTail Name BinOp str int" => (walk_at "S_item")
  k_with "subscriptTail Name Constant str int" => (walk_at "S_item")
  k_with "subscriptTail Name Name str int" => (walk_at "S_item")
  k_with "S_lit" => (first | (with_reducible exact lit_dots) | (with_reducible exact lit_empty) | (with_reducible exact lit34) | (with_reducible exact lit9234) | (with_reducible exact lit92) | (with_reducible exact lit10) | (with_reducible exact lit38) | (with_reducible exact lit59) | (with_reducible rfl))
  k_with "call builtin:str.replace" => (((with_reducible show wpAny _ _ (call (Value.builtin _) [Value.str (S _) _, Value.str _ _, Value.str _ _]) _ _ _); k_dflt (refine r_replace (by walk_at "S_lit") (by walk_at "S_lit") (by decide) (Nat.succ_ne_zero _) (Nat.succ_ne_zero _) (Nat.ne_of_lt (Nat.lt_succ_self _)) (by decide) (by walk_at "S_nn") ?_); intro _ _))
  k_with "call builtin:str.join" => ((k_here; (with_reducible show wpAny _ _ (call (Value.builtin _) [Value.str _ _, Value.ref _]) _ _ _); k_dflt (refine r_join (by walk_at "S_lit") (by walk_at "S_isl") (by walk_at "S_strs") (by walk_at "S_sum") ?_); intro _ _))
  k_with "S_isl" => (first | assumption | exact ⟨LCg.lst _, News.get (by k_asm) (by k_mem), rfl, _, rfl⟩ | is_list)
  k_with "S_strs" => (first | exact StrsAre.nil | assumption | (exact CharsAre.strs (by assumption)))
  k_with "binaryOp Mult str int" => (((with_reducible show wpAny _ _ (binaryOp _ (Value.str (S _) _) (Value.int _ _)) _ _ _); k_dflt (refine r_mul (by walk_at "S_int") (by walk_at "S_int") (by walk_at "S_nn") ?_); intro _ _))
  k_with "S_enterC" => ((refine' code_defCG ?Q13Xa ?Q13Xb ?Q13Xc ?Q13Xd ?Q13Xe ?Q13Xf ?Q13Xg ?Q13Xh ?Q13Xi ?Q13Xj ?Q13Xk ?Q13Xl ?Q13Xm ?Q13Xn ?_ ?Q13Xo ?Q13Xp ?Q13Xq; (case Q13Xf => exact rfl); (case Q13Xg => exact rfl); (case Q13Xh => assumption); (case Q13Xa => k_asm); (case Q13Xb => k_asm); (case Q13Xc => k_asm); (case Q13Xd => k_asm); (case Q13Xe => k_asm); (case Q13Xi => k_is); (case Q13Xj => k_is); (case Q13Xk => ktr_room); (case Q13Xl => exact BindsTo.of_eq rfl); (case Q13Xm => rfl); (case Q13Xn => decide); (case Q13Xo => exact rfl); (case Q13Xp => exact rfl); (case Q13Xq => exact rfl); k_whole; intro Z13Xj Z13Xd Z13Xk Z13Xo Z13Xi Z13Xc Z13Xb Z13Xe Z13Xh Z13Xa Z13Xg Z13Xf Z13Xm Z13Xl Z13Xn; (try dsimp only [List.map_nil, List.map_cons] at Z13Xl); (try k_lt Z13Xm); k_cells Z13Xh; (try simp only [List.cons_append, List.nil_append] at Z13Xe); (try dsimp only); (try k_lift Z13Xa); (try k_fold)))
  k_with "S_lcs" => ((k_here; k_dflt (refine ListComp_S (_F₀ := by k_asm) (by rfl) (by decide) (by rfl) (by decide) (by rfl) ?_)))
  k_with "S_lit" => (first | (with_reducible exact lit_dots) | (with_reducible exact lit_empty) | (with_reducible exact lit34) | (with_reducible exact lit9234) | (with_reducible exact lit92) | (with_reducible exact lit10) | (with_reducible exact lit38) | (with_reducible exact lit59) | (with_reducible exact lit60) | (with_reducible exact lit62) | (with_reducible exact lit13) | (with_reducible exact lit9) | (with_reducible exact litamp) | (with_reducible exact litlt) | (with_reducible exact litgt) | (with_reducible exact litquot) | (with_reducible rfl))
  k_with "S_sum" => (assumption)
  k_with "eval ListComp" => ((k_here; (with_reducible show wpAny _ _ (eval (PySem.Expr.ListComp _ [⟨PySem.Expr.Tuple _ _ _, _, [], 0⟩] _ _) _) _ _ _); k_dflt (refine ListComp_E (_F₀ := by k_asm) (by rfl) (by decide) (by rfl) (by decide) (by rfl) (by rfl) (by decide) ?_)))
  k_with "eval ListComp" => ((k_here; (with_reducible show wpAny _ _ (eval (PySem.Expr.ListComp _ [⟨PySem.Expr.Name _ _, _, [], 0⟩] _ _) _) _ _ _); k_dflt (refine LCg.ListComp_U (F₀ := by k_asm) (by rfl) (by decide) (by rfl) (by decide) (by rfl) ?_)))
  k_with "call type:enumerate" => (refine stop9 ?_)
  k_with "exec Assign cons ListComp" => ((k_here; k_dflt (refine wpAny_Assign_Name ?_ (by rfl))))
  k_with "CompSrc" => (refine stop9 ?_)
  k_with "CompEnd" => (refine stop9 ?_)
  k_with "FinE" => (((unfold LCg.FinE); intro Z1dXa Z1dXd Z1dXf Z1dXb Z1dXc Z1dXe; (try simp only [List.nil_append, List.cons_append] at Z1dXc); (try dsimp only)))
  k_with "FinA" => (((unfold LCg.FinA); intro Z1eXa Z1eXd Z1eXf Z1eXb Z1eXc Z1eXe; (try simp only [List.nil_append, List.cons_append] at Z1eXc); (try dsimp only)))
  k_with "m_k_ne" => (first | (refine neN ?_; (try dsimp only); omega) | exact off1_ne (by assumption) (by k_mem) | exact Ne.symm (off1_ne (by assumption) (by k_mem)))
  k_with "eval ListComp" => ((k_here; (with_reducible show wpAny _ _ (eval (PySem.Expr.ListComp _ [⟨PySem.Expr.Name _ _, _, [_], 0⟩] _ _) _) _ _ _); k_dflt (refine LCt.ListComp_T (F₀ := by k_asm) (by rfl) (by decide) (by rfl) (by decide) (by rfl) ?_)))
  k_with "CompSrcT" => (refine stop9 ?_)
  k_with "S_laps" => ((intro Z1iXf; obtain ⟨Z1iXa, Z1iXj, Z1iXi, Z1iXh, Z1iXc, Z1iXd, Z1iXe⟩ := Z1iXf; subst Z1iXh; (obtain ⟨Z1iXb, Z1iXg⟩ := news_add (by k_asm) (by k_asm) (by k_asm) Z1iXc Z1iXd)))
  k_with "S_il" => (((rename News _ _ _ _ => Z1jXa); exact ⟨_, News.get Z1jXa (by k_mem), rfl, _, rfl⟩))
  k_with "execs cons" => (((have _sf : StopH := by assumption); clear _sf; refine stop9 ?_))
  k_with "call ref" => (refine stop9 ?_)
  k_with "call ref" => ((k_here; k_dflt (walk_at "S_use"); intro Z1mXf Z1mXd Z1mXe Z1mXb; (have Z1mXa := Fr.keeps (by k_asm) Z1mXb); (have Z1mXc := News.grown (by k_asm) Z1mXb); walk_at "S_back" <;> ((try dsimp only); (try k_fold))))
  k_with "S_con" => (exact con_laps _ _ (by omega) (by assumption))
  k_with "S_back" => (walk_at "S_laps")
  k_with "pyIter ref" => (refine stop9 ?_)
  k_with "subscriptTail Name Slice ref ref" => (((with_reducible show wpAny _ _ (subscriptTail _ (PySem.Expr.Slice none none (some _) _) (Value.ref _) (Value.ref _)) _ _ _); (with_reducible rename Fr _ _ _ _ => Z1qXc); (with_reducible rename News _ _ _ _ => Z1qXe); k_dflt (refine' r_rev (s := ⟨_, _, _, _, _⟩) Z1qXc Z1qXe (.head _) (by assumption) ?_); intro Z1qXa Z1qXf Z1qXb Z1qXd Z1qXg; (try k_lt Z1qXg)))
  k_with "m_k_all" => (assumption)
  k_with "exec Assign cons ListComp" => (((with_reducible show wpAny _ _ (exec (Stmt.Assign _ (PySem.Expr.ListComp _ [⟨PySem.Expr.Name _ _, PySem.Expr.Tuple _ _ _, [], 0⟩] _ _) _) _) _ _ _); k_here; k_dflt (refine Assign_ListComp_V (_F₀ := by k_asm) (by rfl) (by with_unfolding_all rfl) (by with_unfolding_all rfl) (by decide) (by rfl) (by decide) (by rfl) (by rfl) (by rfl) ?_)))
  k_with "subscriptTail Name Slice ref ref" => (((with_reducible show wpAny _ _ (subscriptTail _ (PySem.Expr.Slice (some _) (some _) none _) (Value.ref _) (Value.ref _)) _ _ _); (with_reducible rename Fr _ _ _ _ => Z1tXc); (with_reducible rename News _ _ _ _ => Z1tXe); k_dflt (refine' r_m21 (s := ⟨_, _, _, _, _⟩) Z1tXc Z1tXe (.head _) (by assumption) (by omega) ?_ (by with_unfolding_all rfl)); intro Z1tXa Z1tXi Z1tXf Z1tXb Z1tXd Z1tXh Z1tXg; (try k_lt Z1tXh)))
  k_with "compareOp NotEq ref ref" => ((k_here; (with_reducible show wpAny _ _ (compareOp CmpOp.NotEq (Value.ref _) (Value.ref _)) _ _ _); k_dflt (refine' r_ne_cons ?Q1uXa ?Q1uXb ?Q1uXc ?Q1uXd ?Q1uXe ?_; (case Q1uXa => walk_at "S_il"); (case Q1uXb => walk_at "S_il"); (case Q1uXc => exact .cons _ _ (by assumption)); (case Q1uXd => assumption); (case Q1uXe => ke_room))))
  trivial
theorem two3 {w : World} {p loose mean mg mb} {dp un : Nat} {gd : Option (List Code)} {L fa : Addr} {ccd : Value} {outer : List Env} {A₀ : Around} {base g : Heap} {m : PySem.Str → Option Value} {s : Shared} {Q : Flow → Shared → Prop} {E : Value → Shared → Prop}
    (o1 o2 o3 o4 : Obj) (tl : List (Addr × Obj)) (h2 : ∀ p ∈ tl, p.1 ≠ L + 1 + 1) (h3 : ∀ p ∈ tl, p.1 ≠ L + 1 + 1 + 1) (h4 : ∀ p ∈ tl, p.1 ≠ L + 1 + 1 + 1 + 1) (a b : Nat) (ta tb : Tok) (ha : a ≠ 46) (hb : b ≠ 46) (ha8 : a < 128) (hb8 : b < 128) (Dc : Addr) (cvs : List Value) (kc : Nat) (lc : @LT.lt Nat _ (L + 1 + 1 + 1 + 1) Dc) (d1 : o1.data = .cell (some (.str (S [b]) tb))) (v2 v3 v4 : Option Value) (d2 : o2.data = .cell v2) (d3 : o3.data = .cell v3) (d4 : o4.data = .cell v4)
    (tlx : List (Addr × Obj)) (ch : List (Nat × Nat)) (hch : ChainAre cvs tlx ch) (htx : ∀ q ∈ tlx, q ∈ tl) (hcl : cvs.length ≤ 9) (made : List Nat) (tm : Tok) (hfo : FoldOk a b ch made)
    (n3 : m (PySem.Str.ofString "one") = some (.str (S [a]) ta)) (n4 : m (PySem.Str.ofString "chain") = some (.ref Dc)) (n5 : m (PySem.Str.ofString "made") = some (.str (S made) tm))
    (hE : PassesOwn (model Challenge.pw_sc0056_01 w) (twoA dp un gd L fa ccd outer) (twoEnv L fa ccd) E) (hB : Below A₀ base outer g) (hF : Fr g L s.heap m) (hX : (hd.heap_1 w.params).In g) (hT : Top p loose mean mg mb g) (hr : dp + 16 < recursionLimit) (hu : un + 16 * 16 < cLine) (hC : CodeHd base 111 107) (hN : News g L s.heap ((Dc, listOf (cvs).toArray kc) :: (L + 1 + 1 + 1 + 1, o4) :: (L + 1 + 1 + 1, o3) :: (L + 1 + 1, o2) :: (L + 1, o1) :: tl))
    (next : ∀ (h' : Heap) (tk' : Nat) (m' : PySem.Str → Option Value) (tm : Tok) (o2 o3 o4 : Obj),
      m' (PySem.Str.ofString "made") = some (.str (S (ch.reverse.foldl (back1 a b) made)) tm) →  Fr g L h' m' → News g L h' ((Dc, listOf (cvs).toArray kc) :: (L + 1 + 1 + 1 + 1, o4) :: (L + 1 + 1 + 1, o3) :: (L + 1 + 1, o2) :: (L + 1, o1) :: tl) →
      wpAny (model Challenge.pw_sc0056_01 w) (twoA dp un gd L fa ccd outer) (execs (twoBody.drop 7) (twoEnv L fa ccd)) Q E { s with heap := h', toks := tk' }) :
    wpAny (model Challenge.pw_sc0056_01 w) (twoA dp un gd L fa ccd outer) (execs (twoBody.drop 6) (twoEnv L fa ccd)) Q E s := by
  obtain ⟨hp, gns, dr, tk, os⟩ := s
  conv in (List.drop _ twoBody) => whnf
  (try clear sfl)
  walk1
  k_dflt (refine For_ownA ?_ (hE := hE))
  k_steps
  rename Fr _ _ _ _ => F1
  rename News _ _ _ _ => N1
  obtain ⟨Dv, rfl⟩ := head_addr N1
  rename @LT.lt Nat _ Dc Dv ∧ _ => lv
  refine Stop9.go ?_
  refine wpAny_pyIter_list ⟨_, (N1 _ (.head _)).1, rfl, _, rfl⟩ ?_
  have N2 := News.push F1 N1 { cls := .type "list_iterator", data := .fields #[.ref Dv, .int 0 0] }
  have F2 := Fr.push F1 { cls := .type "list_iterator", data := .fields #[.ref Dv, .int 0 0] }
  have li := fun q hq => Heap.lt_size (N1 q hq).1
  have hDv := li _ (.head _)
  dsimp only at N2 F2 hDv ⊢
  obtain ⟨It, hIt⟩ := head_addr N2
  rw [← hIt] at N2 hDv li ⊢
  have off0 := off1_of (l := (Dv, listOf cvs.reverse.toArray 0) :: (Dc, listOf (cvs).toArray kc) :: (L + 1 + 1 + 1 + 1, o4) :: (L + 1 + 1 + 1, o3) :: (L + 1 + 1, o2) :: (L + 1, o1) :: tl) fun q hq => Nat.ne_of_lt (li q hq)
  clear N1 F1 li hIt
  obtain ⟨I, hI⟩ : ∃ I : Nat → Shared → Prop, I = fun n z => ∃ (h : Heap) (tk : Nat) (i : Nat) (md : List Nat) (tm : Tok) (oI o2 o3 o4 : Obj) (v2 v3 v4 : Option Value) (m : PySem.Str → Option Value), z = { heap := h, gens := gns, drawn := dr, toks := tk, os := os } ∧ i ≤ cvs.length ∧ n = cvs.length - i ∧ oI.cls = .type "list_iterator" ∧ oI.data = .fields #[.ref Dv, .int ((i : Nat) : Int) 0] ∧ md = (ch.reverse.take i).foldl (back1 a b) made ∧ o2.data = .cell v2 ∧ o3.data = .cell v3 ∧ o4.data = .cell v4 ∧
       m (PySem.Str.ofString "one") = some (.str (S [a]) ta) ∧ m (PySem.Str.ofString "made") = some (.str (S md) tm) ∧ Fr g L h m ∧ Off1 It ((Dv, listOf cvs.reverse.toArray 0) :: (Dc, listOf (cvs).toArray kc) :: (L + 1 + 1 + 1 + 1, o4) :: (L + 1 + 1 + 1, o3) :: (L + 1 + 1, o2) :: (L + 1, o1) :: tl) ∧ News g L h ((It, oI) :: (Dv, listOf cvs.reverse.toArray 0) :: (Dc, listOf (cvs).toArray kc) :: (L + 1 + 1 + 1 + 1, o4) :: (L + 1 + 1 + 1, o3) :: (L + 1 + 1, o2) :: (L + 1, o1) :: tl) := ⟨_, rfl⟩
  refine ⟨I, cvs.length, by rw [hI]; exact ⟨_, _, 0, made, tm, _, o2, o3, o4, v2, v3, v4, m, rfl, Nat.zero_le _, rfl, rfl, rfl, rfl, d2, d3, d4, n3, n5, F2, off0, N2⟩, ?_⟩
  intro n z hz
  rw [hI] at hz
  obtain ⟨h3, tk3, i, made3, tm3, oI, p2, p3, p4, w2, w3, w4, m3, rfl, hi, rfl, hoI1, hoI2, hmd, e2, e3, e4, n3', n5', F3, offI, N3⟩ := hz
  have hit : h3.IsListIter It Dv i := ⟨oI, (N3 _ (.head _)).1, hoI1, hoI2⟩
  have hls : h3.IsList Dv cvs.reverse.toArray := ⟨_, (N3 _ (.tail _ (.head _))).1, rfl, _, rfl⟩
  by_cases hil : i < cvs.length
  · obtain ⟨T, n', p', t', u', b1, b2, b3⟩ := hch.back.2 i hil
    obtain ⟨u, M, c1, c2, c3, c4, c5, hbin⟩ := hfo i (by rw [← hch.back.1]; exact hil)
    have c6 := bin_free ha hb hbin
    rw [c3] at b2
    obtain ⟨rfl, rfl⟩ : n' = u.length ∧ p' = stp u := by cases b2; exact ⟨rfl, rfl⟩
    rw [c4] at hmd
    subst hmd
    clear b2
    refine wpAny_pyNext_list_item hit hls (x := .ref T) (by simpa using b1) fun h4 hit4 hs4 => ?_
    obtain ⟨oJ, hJ1, hJ2, hJ3⟩ := hit4
    have zI := N3 _ (.head _)
    have F4 := F3.change hs4 zI.2.1 zI.2.2
    have N4 : News g L h4 ((It, oJ) :: (Dv, listOf cvs.reverse.toArray 0) :: (Dc, listOf (cvs).toArray kc) :: (L + 1 + 1 + 1 + 1, p4) :: (L + 1 + 1 + 1, p3) :: (L + 1 + 1, p2) :: (L + 1, o1) :: tl) := by
      intro q hq
      rcases List.mem_cons.mp hq with rfl | hq
      · exact ⟨hJ1, zI.2⟩
      · have z := N3 q (.tail _ hq)
        exact ⟨hs4.extBut _ _ (off1_mem offI q hq) z.1, z.2⟩
    clear N3 F3 hit hls zI
    dsimp only
    show wpAny _ _ (letOwnedTupleGo _ _ _) _ _ _
    refine wpAny_letOwnedTupleGo_listiter ⟨oJ, hJ1, hJ2, hJ3⟩ ?_
    refine assign_Tuple_tuple rfl ⟨_, (News.get N4 (show (T, tupObj [.int ((u.length : Nat) : Int) t', .int ((stp u : Nat) : Int) u']) ∈ _ by repeat first | exact htx _ b3 | apply List.mem_cons_of_mem)), rfl, _, rfl⟩ rfl rfl fun h5 he => ?_
    have F5 := F4.extBut he (Nat.le_refl _)
    have N5 := News.grown N4 fun b o e => he b o (Nat.ne_of_lt (Heap.lt_size e)) e
    clear F4 N4 he
    dsimp only
    have hst := stp_pos c1
    have hnx := nxt_lt c1
    have hdv0 : (0 : Int) ≤ ((u.length : Nat) : Int) / ((stp u : Nat) : Int) := Int.ediv_nonneg (by omega) (by omega)
    have hdv : ((u.length : Nat) : Int) / ((stp u : Nat) : Int) ≤ ((u.length : Nat) : Int) := Int.ediv_le_self _ (by omega)
    have hmd : (0 : Int) ≤ ((u.length : Nat) : Int) % ((stp u : Nat) : Int) := Int.emod_nonneg _ (by omega)
    have hrl : (rpt (made3.take ((stp u : Nat) : Int).toNat) (((u.length : Nat) : Int) / ((stp u : Nat) : Int))).length ≤ 81 := by
      rw [rpt_len, List.length_take]
      exact Nat.le_trans (Nat.mul_le_mul (show _ ≤ 9 by omega) (show _ ≤ 9 by omega)) (Nat.le_refl 81)
    have hrb : (rpt [b] (2 * ((stp u : Nat) : Int) - ((u.length : Nat) : Int) - 1)).length ≤ 18 := by
      rw [rpt_len, List.length_singleton]; omega
    k_steps
    · rename 2 * _ ≤ _ => hq
      rename Fr _ _ _ _ => F6
      rename News _ _ _ _ => N6
      rename _ = Data.cell (some (Value.int ((u.length : Nat) : Int) _)) => e3'
      rename _ = Data.cell (some (Value.int ((stp u : Nat) : Int) _)) => e2'
      exact ⟨cvs.length - (i + 1), by omega, by rw [hI]; exact ⟨_, _, i + 1, back1 a b made3 (u.length, stp u), _, oJ, _, _, _, _, _, _, _, rfl, by omega, rfl, hJ2, hJ3, by rw [fold_take _ _ c3, c4], e2', e3', e4, by exact n3', by (rw [← back_a a b made3 hq]; rfl), F6, offI, news_sub N6 (by (intro p hp; repeat first | exact hp | apply List.mem_cons_of_mem))⟩⟩
    · rename Fr _ _ _ _ => F6
      rename News _ _ _ _ => N6
      rename ¬ 2 * _ ≤ _ => hq
      have hml : made3.length = u.length - stp u := by
        rw [c5]; unfold nxt; rw [if_neg (by omega), List.length_drop]
      refine ⟨_, _, _, rfl, rfl, F6, N6, .head _, by simp, ?_⟩
      rintro _ ⟨g', rfl⟩
      refine rest_ind (J := fun i ys news => StrsAre ys ([rowL b made3 u.length (stp u) b, rowL b made3 u.length (stp u) a].take i) ∧ news = _) ?step ?fin _ 0 _ _ (Nat.zero_add _) ⟨.nil, rfl⟩
      case step =>
        clear N6 F6
        rintro i2 v ys news I oI' C oC D m2 h2 tk2 E9 hi2 hP ⟨hJ, rfl⟩ hC2 hx F7 N7 off ne
        have hv : ∃ x tx, v = Value.str (S [x]) tx ∧ [rowL b made3 u.length (stp u) b, rowL b made3 u.length (stp u) a][i2]? = some (rowL b made3 u.length (stp u) x) := by
          have hi' : i2 < 2 := hi2
          rcases i2 with _ | _ | i2
          · cases hP; exact ⟨_, _, rfl, rfl⟩
          · cases hP; exact ⟨_, _, rfl, rfl⟩
          · omega
        obtain ⟨x, tx, rfl, hx2⟩ := hv
        have hJ2 : ∀ t, StrsAre (ys ++ [Value.str (S (rowL b made3 u.length (stp u) x)) t]) ([rowL b made3 u.length (stp u) b, rowL b made3 u.length (stp u) a].take (i2 + 1)) := fun t => by
          rw [List.take_add_one, hx2]
          exact hJ.append (.cons _ _ .nil)
        clear hP
        dsimp only
        k_steps
        rename Fr _ _ _ _ => F8
        rename News _ _ _ _ => N8
        refine Stop9.go (CompEnd.intro F8 N8 _ ?s2 off ?sr ⟨?_, rfl⟩)
        case s2 => (intro p hp; repeat first | exact hp | apply List.mem_cons_of_mem)
        case sr => k_mem
        rw [row_eq b x made3 (by omega)]
        exact hJ2 _
      case fin =>
        rintro ys news ⟨hJ, rfl⟩
        clear N6 F6
        intro Dr h5 tk5 F5 N5 o5'
        dsimp only
        k_steps
        refine Stop9.go ?_
        rename Fr _ _ _ _ => F8
        rename News _ _ _ _ => N8
        have hyl : ys.toArray.size = 2 := by rw [List.size_toArray, hJ.length]; rfl
        k_dflt (refine LCt.CompSrcT.ledger rfl F8 N8 (.head _) (by rw [hyl, PySem.sizeLine_eq]; omega) fun g' => ?_)
        refine rest_indT (J := fun i zs news => StrsAre zs (fits a b made3 u.length (stp u) i) ∧ news = _) ?step2 ?fin2 _ 0 _ _ (Nat.zero_add _) ⟨.nil, rfl⟩
        case step2 =>
          clear N8 F8
          rintro i3 v zs news I oI' C oC D m2 h2 tk2 E9 hi3 hP ⟨hK, rfl⟩ hC2 hx F9 N9 off ne
          obtain ⟨row, tr, rfl, hrw⟩ := strs_get hJ (i := i3) (by simpa using hP)
          clear hP
          have hsu := fits_succ hrw
          have hrm := List.mem_of_getElem? hrw
          have hrb2 : Bin a b row ∧ row.length = u.length := by
            rcases List.mem_cons.mp hrm with e | e
            · rw [e]; exact ⟨row_bin (.inr rfl) hbin, row_len b b (by omega) hst.2 hml⟩
            · rw [List.mem_singleton.mp e]; exact ⟨row_bin (.inl rfl) hbin, row_len b a (by omega) hst.2 hml⟩
          have hrf := bin_free ha hb hrb2.1
          have hr9 : row.length ≤ 9 := by rw [hrb2.2]; exact c2
          dsimp only
          k_steps
          · rename lapM row = _ => hb1
            rename Fr _ _ _ _ => F10
            rename News _ _ _ _ => N10
            refine Stop9.go (CompEnd.intro F10 N10 _ ?s3 off ?sr3 ⟨?_, rfl⟩)
            case s3 => (intro p hp; repeat first | exact hp | apply List.mem_cons_of_mem)
            case sr3 => lcg_src
            rw [hsu, if_pos (by rw [← lapM_eq]; exact decide_eq_true hb1)]
            exact hK.append (.cons _ _ .nil)
          · rename ¬ lapM row = _ => hb1
            rename Fr _ _ _ _ => F10
            rename News _ _ _ _ => N10
            refine Stop9.go (CompEnd.intro F10 N10 _ ?s4 off ?sr4 ⟨?_, rfl⟩)
            case s4 => (intro p hp; repeat first | exact hp | apply List.mem_cons_of_mem)
            case sr4 => lcg_src
            rw [hsu, if_neg (by rw [← lapM_eq]; exact fun q => hb1 (of_decide_eq_true q)), List.append_nil]
            exact hK
        case fin2 =>
          rintro zs news ⟨hK, rfl⟩
          clear N8 F8
          rw [hyl] at hK
          have hK8 := fits_ok8 (n := u.length) (p := stp u) (i := 2) ha8 hb8 hbin
          have hmk := fits_mk a b made3 u.length (stp u)
          have hbk := back_b a b made3 hq
          intro Df h6 tk6 F6 N6 o6'
          dsimp only
          rcases hmk with ⟨k1, k2⟩ | ⟨rr, k1⟩
          · rw [k1] at hK hK8
            cases hK
            k_steps
            rename Fr _ _ _ _ => F6
            rename News _ _ _ _ => N6
            rename _ = Data.cell (some (Value.int ((u.length : Nat) : Int) _)) => e3'
            rename _ = Data.cell (some (Value.int ((stp u : Nat) : Int) _)) => e2'
            rename _ = Data.cell (some (Value.str (S made3) _)) => e4'
            exact ⟨cvs.length - (i + 1), by omega, by rw [hI]; exact ⟨_, _, i + 1, back1 a b made3 (u.length, stp u), _, oJ, _, _, _, _, _, _, _, rfl, by omega, rfl, hJ2, hJ3, by rw [fold_take _ _ c3, c4], e2', e3', e4', by exact n3', by (rw [hbk, k2]; rfl), F6, offI, news_sub N6 (by (intro p hp; repeat first | exact hp | apply List.mem_cons_of_mem))⟩⟩
          · rw [k1] at hK hK8
            cases hK
            k_steps
            rename Fr _ _ _ _ => F6
            rename News _ _ _ _ => N6
            rename _ = Data.cell (some (Value.int ((u.length : Nat) : Int) _)) => e3'
            rename _ = Data.cell (some (Value.int ((stp u : Nat) : Int) _)) => e2'
            rename _ = Data.cell (some (Value.str (S made3) _)) => e4'
            exact ⟨cvs.length - (i + 1), by omega, by rw [hI]; exact ⟨_, _, i + 1, back1 a b made3 (u.length, stp u), _, oJ, _, _, _, _, _, _, _, rfl, by omega, rfl, hJ2, hJ3, by rw [fold_take _ _ c3, c4], e2', e3', e4', by exact n3', by (rw [hbk]; rfl), F6, offI, news_sub N6 (by (intro p hp; repeat first | exact hp | apply List.mem_cons_of_mem))⟩⟩
  · have hieq : i = cvs.length := by omega
    subst hieq
    have hcr : cvs.reverse.toArray[cvs.length]? = none := by simp
    refine wpAny_pyNext_list_end rfl hit hls hcr fun h4 he4 => ?_
    have zI := N3 _ (.head _)
    have hk4 : ∀ b o, b ∉ [It] → h3.get? b = some o → h4.get? b = some o := fun b o hb e => he4 b o (fun q => hb (by rw [q]; exact .head _)) e
    have F4 := LCg.fr_but F3 hk4 (Ne.symm zI.2.1) zI.2.2
    have N4 := LCg.news_but (news_sub (l' := (Dc, listOf (cvs).toArray kc) :: (L + 1 + 1 + 1 + 1, p4) :: (L + 1 + 1 + 1, p3) :: (L + 1 + 1, p2) :: (L + 1, o1) :: tl) N3 (by (intro p hp; repeat first | exact hp | apply List.mem_cons_of_mem))) hk4 (fun p hp => off1_mem offI p (.tail _ hp))
    rw [hch.back.1, List.take_of_length_le (by simp)] at hmd
    subst hmd
    dsimp only [TurnA]
    exact next _ _ _ tm3 p2 p3 p4 (by exact n5') F4 N4
end
section
local macro_rules | `(tactic| walk_at "zz0") => `(tactic| fail)
local macro_rules | `(tactic| walk_at "zz1") => `(tactic| fail)
local macro_rules | `(tactic| walk_at "zz2") => `(tactic| fail)
example : True := by
  k_with_none
  w_top off
  k_with "olt" => (first | assumption | ((fail_if_success refine oM ?_); refine oL ?_; k_extra "ole") | k_extra "olh")
  k_with "olh" => (refine oH (by assumption) (by k_extra "ole"))
  k_with "ole" => (first | exact Nat.le_refl _ | assumption | exact oB | ((first | refine oA ?_ | refine oA2 ?_ | refine oA3 ?_); k_extra "ocl") | (refine oS ?_; k_extra "ole") | (refine Nat.le_of_lt ?_; (first | assumption | k_extra "olh")) | exact oE)
  k_with "olt2" => (first | k_extra "oas" | ((fail_if_success refine oM ?_); refine oL ?_; k_extra "ole2") | k_extra "olh2")
  k_with "olh2" => (refine oH (by k_extra "oas") (by k_extra "ole2"))
  k_with "ole2" => (first | exact Nat.le_refl _ | k_extra "oas" | exact oB | ((first | refine oA ?_ | refine oA2 ?_ | refine oA3 ?_); k_extra "ocl") | (refine oS ?_; k_extra "ole2") | (refine Nat.le_of_lt ?_; (first | k_extra "oas" | k_extra "olh2")) | exact oE)
  k_with "opu" => (first | exact oB | exact Nat.le_refl _ | (refine oS ?_; k_extra "opu"))
  k_with "olt0" => (refine oL ?_; k_extra "opu")
  k_with "one" => (first | (refine Nat.ne_of_gt ?_; (fail_if_success refine oM ?_); k_extra "olt0") | (refine Nat.ne_of_lt ?_; (fail_if_success refine oM ?_); k_extra "olt0") | exact Ne.symm (by assumption) | (refine Nat.ne_of_gt ?_; (fail_if_success refine oM ?_); k_extra "oas") | (refine Nat.ne_of_lt ?_; (fail_if_success refine oM ?_); k_extra "oas") | (refine Nat.ne_of_gt ?_; (fail_if_success refine oM ?_); k_extra "odd") | (refine Nat.ne_of_lt ?_; (fail_if_success refine oM ?_); k_extra "odd") | (refine Nat.ne_of_gt ?_; (fail_if_success refine oM ?_); k_extra "olt") | (refine Nat.ne_of_lt ?_; (fail_if_success refine oM ?_); k_extra "olt") | (refine Nat.ne_of_gt ?_; (fail_if_success refine oM ?_); k_extra "olt2") | (refine Nat.ne_of_lt ?_; (fail_if_success refine oM ?_); k_extra "olt2") | decide)
  k_with "ol1" => (first | ((fail_if_success refine oM ?_); first | k_extra "oas" | k_extra "olt0" | k_extra "odd" | k_extra "olt" | k_extra "olt2") | k_extra "ocl" | exact oT0 | exact oT5)
  k_with "oe1" => (first | ((fail_if_success refine oN ?_); first | k_extra "oas" | k_extra "opu" | k_extra "ole" | k_extra "ole2" | exact oE (by k_extra "oas")) | k_extra "ocl" | k_extra "olit" | k_extra "oas")
  k_with "olit" => (first | exact oT4 | exact oP | exact oP2 | exact oT1 | exact oT2 | exact oT3 | exact oQ5 | exact oQ1 | exact oQ2 | exact oQ3 | exact oQ4 | exact oQ6 | exact oD)
  k_with "ocl" => (with_unfolding_all exact Nat.le_of_ble_eq_true rfl)
  k_with "oas" => (first | assumption | exact oa1 | exact ob1 | exact oa2 | exact ob2 | exact oa3 | exact ob3 | exact oa4 | exact ob4 | exact oa5 | exact ob5 | exact oa6 | exact ob6 | exact oa7 | exact ob7)
  k_with "odd" => (first | exact oa1 ob7 | exact oa2 ob7 | exact oa3 ob7 | exact oa4 ob7 | exact oa5 ob7 | exact oa6 ob7 | exact oa7 ob7 | exact oa1 (ob7 ob7) | exact oa2 (ob7 ob7) | exact oa3 (ob7 ob7) | exact oa4 (ob7 ob7) | exact oa5 (ob7 ob7) | exact oa6 (ob7 ob7) | exact oa7 (ob7 ob7) | exact ob1 ob7 | exact ob2 ob7 | exact ob3 ob7 | exact ob4 ob7 | exact ob5 ob7 | exact ob6 ob7 | exact ob7 ob7)
  k_with "oin" => (first | decide | exact oI1 | exact oI3 | exact oI2 (by k_extra "oas"))
  k_with "om" => (with_reducible first | (first | assumption | ((fail_if_success fail_if_success refine oXn ?_); k_extra "one") | ((fail_if_success fail_if_success refine oXl ?_); k_extra "ol1") | ((fail_if_success fail_if_success refine oXe ?_); k_extra "oe1") | k_extra "oin") | fail)
  k_with "S_fit" => (first | omega | ((simp only [S_len, List.length_append, List.length_cons, List.length_nil, List.length_take, List.length_drop, dots, PySem.sizeLine_eq]); omega))
  k_with "call builtin:len" => (((with_reducible show wpAny _ _ (call (Value.builtin "len") [Value.str (S _) _]) _ _ _); refine r_len (by walk_at "S_fit") ?_))
  k_with "call builtin:str.startswith" => (((with_reducible show wpAny _ _ (call (Value.builtin "str.startswith") [Value.str (S _) _, Value.str (S _) _]) _ _ _); refine r_starts ?_))
  k_with "call builtin:str.endswith" => (((with_reducible show wpAny _ _ (call (Value.builtin "str.endswith") [Value.str (S _) _, Value.str (S _) _]) _ _ _); refine r_ends ?_))
  k_with "truthy str" => (((with_reducible show wpAny _ _ (truthy (Value.str (S _) _)) _ _ _); refine r_truthy (by walk_at "S_fit") ?_))
  k_with "exec For Name Name cons nil" => ((k_here; (rename Fr _ _ _ _ => Z6Xa); (with_unfolding_all refine' For_invVF Z6Xa ?Q6Xa ?Q6Xb ?_; (case Q6Xa => exact rfl); (case Q6Xb => exact rfl); k_whole)))
  k_with "pyIter ref" => (((with_reducible show wpAny _ _ (pyIter (Value.ref _)) (fun it s₂ => LoopAtV _ _ _ _ _ _ _ _ _ it s₂) _ _); k_listUnr))
  k_with "S_enter" => ((refine' code_defG (news := []) ?Q8Xa ?Q8Xb ?Q8Xc ?Q8Xd ?Q8Xe ?Q8Xf ?Q8Xg ?Q8Xh ?Q8Xi ?Q8Xj ?Q8Xk ?Q8Xl ?Q8Xm ?_ ?Q8Xn ?Q8Xo ?Q8Xp ?Q8Xq; (case Q8Xf => exact rfl); (case Q8Xg => exact rfl); (case Q8Xh => assumption); (case Q8Xa => k_asm); (case Q8Xb => k_asm); (case Q8Xc => k_asm); (case Q8Xd => exact News.nil); (case Q8Xe => k_asm); (case Q8Xi => k_is); (case Q8Xj => k_is); (case Q8Xk => ktr_room); (case Q8Xl => exact BindsTo.of_eq rfl); (case Q8Xq => decide); (case Q8Xm => exact locs rfl); (case Q8Xn => exact rfl); (case Q8Xo => exact rfl); (case Q8Xp => exact rfl); k_whole; intro Z8Xh Z8Xd Z8Xi Z8Xc Z8Xb Z8Xe Z8Xa Z8Xg Z8Xf Z8Xj; (try dsimp only [List.map_nil] at Z8Xj); (try dsimp only); (try k_lift Z8Xa); (try k_fold)))
  k_with "S_look" => (first | exact rfl | assumption | exact (if_pos rfl) | (refine (if_neg (by decide)).trans ?_; walk_at "S_look"))
  k_with "eval Name" => ((k_here; k_dflt (refine' nameX_L ?QaXa ?QaXb ?_ ?QaXc ?QaXd; (case QaXa => k_asm); (case QaXc => rfl); (case QaXd => rfl); (case QaXb => walk_at "S_look"); k_whole)))
  k_with "S_lit" => (first | (with_reducible exact lit_dots) | (with_reducible rfl))
  k_with "S_nn" => (first | omega | ((simp only [List.length_append, List.length_cons, List.length_nil, List.length_take, List.length_drop, dots] at *); omega))
  k_with "binaryOp Add str str" => (((with_reducible show wpAny _ _ (binaryOp _ (Value.str _ _) (Value.str _ _)) _ _ _); k_dflt (refine r_add (by walk_at "S_lit") (by walk_at "S_lit") (by walk_at "S_fit") ?_); intro _ _))
  k_with "subscriptTail Name Slice str ref" => (((with_reducible show wpAny _ _ (subscriptTail _ (Expr.Slice none (some _) none _) (Value.str (S _) _) _) _ _ _); (with_reducible rename Fr _ _ _ _ => ZeXa); (with_reducible rename News _ _ _ _ => ZeXb); (refine r_sliceTo (s := ⟨_, _, _, _, _⟩) ZeXa ZeXb (by walk_at "S_nn") (by walk_at "S_fit") ?_); intro _ _ _ _ _))
  k_with "subscriptTail Name Slice str ref" => (((with_reducible show wpAny _ _ (subscriptTail _ (Expr.Slice (some _) none none _) (Value.str (S _) _) _) _ _ _); (with_reducible rename Fr _ _ _ _ => ZfXa); (with_reducible rename News _ _ _ _ => ZfXb); (refine r_sliceFrom (s := ⟨_, _, _, _, _⟩) ZfXa ZfXb (by walk_at "S_nn") (by walk_at "S_fit") ?_); intro _ _ _ _ _))
  k_with "exec For Name Call cons nil" => ((k_here; (rename Fr _ _ _ _ => ZgXa); (with_unfolding_all refine' For_invVF ZgXa ?QgXa ?QgXb ?_; (case QgXa => exact rfl); (case QgXb => exact rfl); k_whole)))
  k_with "S_use" => ((refine' pcon_use ?QhXa ?QhXb ?QhXc ?QhXd ?QhXe ?QhXf ?QhXg ?QhXh ?_; (case QhXb => k_asm); (case QhXc => k_asm); (case QhXd => k_asm); (case QhXe => k_asm); (case QhXa => walk_at "S_con"); (case QhXf => first | exact rfl | assumption); (case QhXg => ktr_room); (case QhXh => ktr_units)))
  k_with "call ref" => ((k_here; k_dflt (walk_at "S_use"); intro ZiXf ZiXd ZiXe ZiXb; (have ZiXa := Fr.keeps (by k_asm) ZiXb); (have ZiXc := News.grown (by k_asm) ZiXb); walk_at "S_back" <;> ((try dsimp only); (try k_fold))))
  k_with "pyIter ref" => (k_extra "S_loop")
  k_with "S_bool" => ((intro ZkXa; (rcases bool_or ZkXa with ⟨R8, R7⟩ | ⟨R8, R7⟩) <;> subst R7))
  k_with "call builtin:list.append" => ((k_here; (with_reducible show wpAny _ _ (call (Value.builtin _) [Value.ref _, _]) _ _ _); k_dflt (refine' append_K ?QlXa ?QlXb ?QlXc ?_ ?QlXd; (case QlXa => k_asm); (case QlXb => k_asm); (case QlXc => k_upd); (case QlXd => exact size_ok (k := 100000) (by omega) (by decide)); k_whole); intro ZlXc ZlXa ZlXb; (try k_sweep)))
  k_with "m_k_room" => (ktr_room)
  k_with "m_k_units" => (ktr_units)
  k_with "S_enterM" => ((refine' code_defG ?QoXa ?QoXb ?QoXc ?QoXd ?QoXe ?QoXf ?QoXg ?QoXh ?QoXi ?QoXj ?QoXk ?QoXl ?QoXm ?_ ?QoXn ?QoXo ?QoXp ?QoXq; (case QoXf => exact rfl); (case QoXg => exact rfl); (case QoXh => assumption); (case QoXa => k_asm); (case QoXb => k_asm); (case QoXc => k_asm); (case QoXd => k_asm); (case QoXe => k_asm); (case QoXi => k_is); (case QoXj => k_is); (case QoXk => ktr_room); (case QoXl => exact BindsTo.of_eq rfl); (case QoXq => decide); (case QoXm => exact locs rfl); (case QoXn => exact rfl); (case QoXo => exact rfl); (case QoXp => exact rfl); k_whole; intro ZoXh ZoXd ZoXi ZoXc ZoXb ZoXe ZoXa ZoXg ZoXf ZoXj; (try dsimp only [List.map_nil, List.map_cons] at ZoXj); (try dsimp only); (try k_lift ZoXa); (try k_fold)))
  k_with "callWith" => (((with_reducible show wpAny _ _ (callWith _ (Prod.fst _) (Prod.snd _) _ _) _ _ _); dsimp only))
  k_with "S_int" => (first | omega | decide | ((simp only [List.length_cons, List.length_nil, decide_eq_true_eq, decide_eq_false_iff_not, beq_iff_eq, beq_eq_false_iff_ne, ne_eq, Int.not_lt, Int.not_le] at *); omega))
  k_with "binaryOp FloorDiv int int" => (((with_reducible show wpAny _ _ (binaryOp _ (Value.int _ _) (Value.int _ _)) _ _ _); k_dflt (refine r_fdiv (by walk_at "S_int") (by walk_at "S_int") ?_); intro _ _))
  k_with "binaryOp Mod int int" => (((with_reducible show wpAny _ _ (binaryOp _ (Value.int _ _) (Value.int _ _)) _ _ _); k_dflt (refine r_fmod (by walk_at "S_int") ?_); intro _ _))
  k_with "S_item" => (((with_reducible show wpAny _ _ (subscriptTail _ _ (Value.str (S _) _) (Value.int _ _)) _ _ _); k_dflt (refine r_item (by walk_at "S_int") (by walk_at "S_int") (by walk_at "S_fit") ?_); intro _ _))
  k_with "subscriptTail Name BinOp str int" => (walk_at "S_item")
  k_with "subscriptTail Name Constant str int" => (walk_at "S_item")
  k_with "subscriptTail Name Name str int" => (walk_at "S_item")
  k_with "S_lit" => (first | (with_reducible exact lit_dots) | (with_reducible exact lit_empty) | (with_reducible exact lit34) | (with_reducible exact lit9234) | (with_reducible exact lit92) | (with_reducible exact lit10) | (with_reducible exact lit38) | (with_reducible exact lit59) | (with_reducible rfl))
  k_with "call builtin:str.replace" => (((with_reducible show wpAny _ _ (call (Value.builtin _) [Value.str (S _) _, Value.str _ _, Value.str _ _]) _ _ _); k_dflt (refine r_replace (by walk_at "S_lit") (by walk_at "S_lit") (by decide) (Nat.succ_ne_zero _) (Nat.succ_ne_zero _) (Nat.ne_of_lt (Nat.lt_succ_self _)) (by decide) (by walk_at "S_nn") ?_); intro _ _))
  k_with "call builtin:str.join" => ((k_here; (with_reducible show wpAny _ _ (call (Value.builtin _) [Value.str _ _, Value.ref _]) _ _ _); k_dflt (refine r_join (by walk_at "S_lit") (by walk_at "S_isl") (by walk_at "S_strs") (by walk_at "S_sum") ?_); intro _ _))
  k_with "S_isl" => (first | assumption | exact ⟨LCg.lst _, News.get (by k_asm) (by k_mem), rfl, _, rfl⟩ | is_list)
  k_with "S_strs" => (first | exact StrsAre.nil | assumption | (exact CharsAre.strs (by assumption)))
  k_with "binaryOp Mult str int" => (((with_reducible show wpAny _ _ (binaryOp _ (Value.str (S _) _) (Value.int _ _)) _ _ _); k_dflt (refine r_mul (by walk_at "S_int") (by walk_at "S_int") (by walk_at "S_nn") ?_); intro _ _))
  k_with "S_enterC" => ((refine' code_defCG ?Q13Xa ?Q13Xb ?Q13Xc ?Q13Xd ?Q13Xe ?Q13Xf ?Q13Xg ?Q13Xh ?Q13Xi ?Q13Xj ?Q13Xk ?Q13Xl ?Q13Xm ?Q13Xn ?_ ?Q13Xo ?Q13Xp ?Q13Xq; (case Q13Xf => exact rfl); (case Q13Xg => exact rfl); (case Q13Xh => assumption); (case Q13Xa => k_asm); (case Q13Xb => k_asm); (case Q13Xc => k_asm); (case Q13Xd => k_asm); (case Q13Xe => k_asm); (case Q13Xi => k_is); (case Q13Xj => k_is); (case Q13Xk => ktr_room); (case Q13Xl => exact BindsTo.of_eq rfl); (case Q13Xm => rfl); (case Q13Xn => decide); (case Q13Xo => exact rfl); (case Q13Xp => exact rfl); (case Q13Xq => exact rfl); k_whole; intro Z13Xj Z13Xd Z13Xk Z13Xo Z13Xi Z13Xc Z13Xb Z13Xe Z13Xh Z13Xa Z13Xg Z13Xf Z13Xm Z13Xl Z13Xn; (try dsimp only [List.map_nil, List.map_cons] at Z13Xl); (try k_lt Z13Xm); k_cells Z13Xh; (try simp only [List.cons_append, List.nil_append] at Z13Xe); (try dsimp only); (try k_lift Z13Xa); (try k_fold)))
  k_with "S_lcs" => ((k_here; k_dflt (refine ListComp_S (_F₀ := by k_asm) (by rfl) (by decide) (by rfl) (by decide) (by rfl) ?_)))
  k_with "S_lit" => (first | (with_reducible exact lit_dots) | (with_reducible exact lit_empty) | (with_reducible exact lit34) | (with_reducible exact lit9234) | (with_reducible exact lit92) | (with_reducible exact lit10) | (with_reducible exact lit38) | (with_reducible exact lit59) | (with_reducible exact lit60) | (with_reducible exact lit62) | (with_reducible exact lit13) | (with_reducible exact lit9) | (with_reducible exact litamp) | (with_reducible exact litlt) | (with_reducible exact litgt) | (with_reducible exact litquot) | (with_reducible rfl))
  k_with "S_sum" => (assumption)
  k_with "eval ListComp" => ((k_here; (with_reducible show wpAny _ _ (eval (PySem.Expr.ListComp _ [⟨PySem.Expr.Tuple _ _ _, _, [], 0⟩] _ _) _) _ _ _); k_dflt (refine ListComp_E (_F₀ := by k_asm) (by rfl) (by decide) (by rfl) (by decide) (by rfl) (by rfl) (by decide) ?_)))
  k_with "eval ListComp" => ((k_here; (with_reducible show wpAny _ _ (eval (PySem.Expr.ListComp _ [⟨PySem.Expr.Name _ _, _, [], 0⟩] _ _) _) _ _ _); k_dflt (refine LCg.ListComp_U (F₀ := by k_asm) (by rfl) (by decide) (by rfl) (by decide) (by rfl) ?_)))
  k_with "call type:enumerate" => (refine stop9 ?_)
  k_with "exec Assign cons ListComp" => ((k_here; k_dflt (refine wpAny_Assign_Name ?_ (by rfl))))
  k_with "CompSrc" => (refine stop9 ?_)
  k_with "CompEnd" => (refine stop9 ?_)
  k_with "FinE" => (((unfold LCg.FinE); intro Z1dXa Z1dXd Z1dXf Z1dXb Z1dXc Z1dXe; (try simp only [List.nil_append, List.cons_append] at Z1dXc); (try dsimp only)))
  k_with "FinA" => (((unfold LCg.FinA); intro Z1eXa Z1eXd Z1eXf Z1eXb Z1eXc Z1eXe; (try simp only [List.nil_append, List.cons_append] at Z1eXc); (try dsimp only)))
  k_with "m_k_ne" => (first | (refine neN ?_; (try dsimp only); omega) | exact off1_ne (by assumption) (by k_mem) | exact Ne.symm (off1_ne (by assumption) (by k_mem)))
  k_with "eval ListComp" => ((k_here; (with_reducible show wpAny _ _ (eval (PySem.Expr.ListComp _ [⟨PySem.Expr.Name _ _, _, [_], 0⟩] _ _) _) _ _ _); k_dflt (refine LCt.ListComp_T (F₀ := by k_asm) (by rfl) (by decide) (by rfl) (by decide) (by rfl) ?_)))
  k_with "CompSrcT" => (refine stop9 ?_)
  k_with "S_laps" => ((intro Z1iXf; obtain ⟨Z1iXa, Z1iXj, Z1iXi, Z1iXh, Z1iXc, Z1iXd, Z1iXe⟩ := Z1iXf; subst Z1iXh; (obtain ⟨Z1iXb, Z1iXg⟩ := news_add (by k_asm) (by k_asm) (by k_asm) Z1iXc Z1iXd)))
  k_with "S_il" => (((rename News _ _ _ _ => Z1jXa); exact ⟨_, News.get Z1jXa (by k_mem), rfl, _, rfl⟩))
  k_with "execs cons" => (((have _sf : StopH := by assumption); clear _sf; refine stop9 ?_))
  trivial
theorem two4 {w : World} {p loose mean mg mb} {dp un : Nat} {gd : Option (List Code)} {L fa : Addr} {ccd : Value} {outer : List Env} {A₀ : Around} {base g : Heap} {m : PySem.Str → Option Value} {s : Shared} {Q : Flow → Shared → Prop} {E : Value → Shared → Prop} {x : List Nat} {tm : Tok} (n5 : m (PySem.Str.ofString "made") = some (.str (S x) tm)) (hB : Below A₀ base outer g) (hF : Fr g L s.heap m) (hX : (hd.heap_1 w.params).In g) (hT : Top p loose mean mg mb g) (hr : dp + 16 < recursionLimit) (hu : un + 16 * 16 < cLine) (hC : CodeHd base 111 107) (next : ∀ tk', Q (.ret (.str (S x) tm)) { s with toks := tk' }) :
    wpAny (model Challenge.pw_sc0056_01 w) (twoA dp un gd L fa ccd outer) (execs (twoBody.drop 7) (twoEnv L fa ccd)) Q E s := by
  obtain ⟨hp, gns, dr, tk, os⟩ := s
  conv in (List.drop _ twoBody) => whnf
  (try clear sfl)
  k_steps
  exact next _
theorem two_body {w : World} {p loose mean mg mb} {dp un : Nat} {gd : Option (List Code)} {L fa : Addr} {ccd : Value} {outer : List Env} {A₀ : Around} {base g : Heap} {m : PySem.Str → Option Value} {s : Shared} {Q : Flow → Shared → Prop} {E : Value → Shared → Prop}
    (o1 o2 o3 o4 : Obj) (r : RP) (ok : r.Ok) (ln : Int) (tl : Tok) (lf : List Value) (kl : Nat) (kp : Nat) (txt : List Nat) (a b : Nat) (tt ta tb : Tok) (hx9 : txt.length ≤ 9) (hx1 : txt ≠ []) (hfr : 46 ∉ txt) (hab : a ≠ b) (ha : a ≠ 46) (hb : b ≠ 46) (ha8 : a < 128) (hb8 : b < 128) (la : @LT.lt Nat _ r.aP L) (d1 : o1.data = .cell (some (.str (S [b]) tb))) (d2 : o2.data = .cell none) (d3 : o3.data = .cell none) (d4 : o4.data = .cell none)
    (n1 : m (PySem.Str.ofString "reader") = some (.ref r.aR)) (n2 : m (PySem.Str.ofString "text") = some (.str (S txt) tt)) (n3 : m (PySem.Str.ofString "one") = some (.str (S [a]) ta))
    (hE : PassesOwn (model Challenge.pw_sc0056_01 w) (twoA dp un gd L fa ccd outer) (twoEnv L fa ccd) E) (hB : Below A₀ base outer g) (hF : Fr g L s.heap m) (hX : (hd.heap_1 w.params).In g) (hT : Top p loose mean mg mb g) (hr : dp + 16 < recursionLimit) (hu : un + 16 * 16 < cLine) (hC : CodeHd base 111 107) (hN : News g L s.heap [(L + 1 + 1 + 1 + 1, o4), (L + 1 + 1 + 1, o3), (L + 1 + 1, o2), (L + 1, o1), (r.aP, listOf (([] : List Value)).toArray kp), (r.aR, instObj 59 r.dR), (r.dR, dictOf [ent w.params "lineno" r.t1 (.int (ln) tl), ent w.params "instream" r.t2 (.ref r.aS), ent w.params "whitespace" r.t3 (.str wsT r.t4), ent w.params "pushback" r.t5 (.ref r.aP)] 4), (r.aF, kla_obj (PySem.Str.ofString "<lambda>") r.q (lamArgs 154) (lamBody 154) lamScope [(PySem.Str.ofString "left", r.aC)] r.pm r.cF r.ctv), (r.cF, r.oc), (r.aP2, listOf #[] 0), (r.aS, instObj 59 r.dS), (r.dS, dictOf [ent w.params "lineno" r.s1 (.int 1 r.s0), ent w.params "instream" r.s2 .none, ent w.params "whitespace" r.s3 (.str wsT r.s4), ent w.params "pushback" r.s5 (.ref r.aP2), ent w.params "read" r.s6 (.ref r.aF)] 5), (r.aL, listOf (lf).toArray kl), (r.aC, r.oC)])
    (next : ∀ (h' : Heap) (tk' : Nat) (m' : PySem.Str → Option Value) (tm : Tok) (kp' : Nat), Fr g L h' m' → News g L h' (rdr 154 w.params r ln tl [] kp' lf kl) → Q (.ret (.str (S (twoL txt a b)) tm)) { s with heap := h', toks := tk' }) :
    wpAny (model Challenge.pw_sc0056_01 w) (twoA dp un gd L fa ccd outer) (execs twoBody (twoEnv L fa ccd)) Q E s := by
  refine two0 o1 o2 o3 o4 r ok ln tl lf kl kp txt a b tt ta tb hx9 hx1 hfr ha hb la d1 n1 n2 n3 hB hF hX hT hr hu hC hN fun h0 tk0 m0 Dc D9 vs9 k9 kp0 tn0 lc hI al n1 n3 n4 n5 n6 F N => ?_
  clear hF hN
  refine two1 o1 o2 o3 o4 r ok ln tl lf kl kp0 txt a b tt ta tb hx9 hx1 hfr ha hb la d2 Dc D9 vs9 k9 tn0 lc (allNe_off al) hI _ rfl n1 n3 n4 n5 n6 hE hB F hX hT hr hu hC N fun h1 tk1 m1 tn1 cvs kc tlx kp1 o2 v2 D8 vs8 k8 hch hcl hlt d2 e1 e2 e3 n1 n3 n4 n5 F N => ?_
  refine two2 o1 o2 o3 o4 r ok ln tl lf kl kp1 a b ta tb Dc D8 vs8 cvs k8 kc tn1 d1 _ e1 e2 tlx n1 n3 n4 n5 hB F hX hT hr hu hC N fun h2 tk2 m2 tm n1 n3 n4 n5 F N => ?_
  have ht : ∀ k : Nat, @LE.le Nat _ L k → @LT.lt Nat _ k Dc → ∀ p ∈ rdr 154 w.params r ln tl [] kp1 lf kl ++ tlx, p.1 ≠ k := fun k hk hd p hp => by
    rcases List.mem_append.mp hp with hp | hp
    · exact fun e => notin_gt ok (Nat.lt_of_lt_of_le la hk) (List.mem_map.mpr ⟨p, hp, e⟩)
    · exact tail_ne hlt (Nat.le_of_lt hd) p hp
  refine two3 o1 o2 o3 o4 (rdr 154 w.params r ln tl [] kp1 lf kl ++ tlx) (ht _ (by omega) (by omega)) (ht _ (by omega) (by omega)) (ht _ (by omega) (by omega)) a b ta tb ha hb ha8 hb8 Dc cvs kc lc d1 _ _ _ d2 d3 d4 tlx _ hch (fun q hq => List.mem_append_right _ hq) hcl _ tm (fold_ok hab txt.length txt (Nat.le_refl _) hx1 hx9) n3 n4 n5 hE hB F hX hT hr hu hC N fun h3 tk3 m3 tm3 o2 o3 o4 n5 F N => ?_
  refine two4 n5 hB F hX hT hr hu hC fun tk4 => ?_
  exact next _ _ _ _ kp1 F (news_sub N fun q hq => .tail _ (.tail _ (.tail _ (.tail _ (.tail _ (List.mem_append_left _ hq))))))
end
section
theorem con_two {w : World} {p loose mean mg mb} (r : RP) (ok : r.Ok) (ln : Int) (tl : Tok) (kp : Nat) (lf : List Value) (kl : Nat) (txt : List Nat) (a b : Nat) (tt ta tb : Tok) (hx9 : txt.length ≤ 9) (hx1 : txt ≠ []) (hfr : 46 ∉ txt) (hab : a ≠ b) (ha : a ≠ 46) (hb : b ≠ 46) (ha8 : a < 128) (hb8 : b < 128) :
    MCon 111 107 20 Challenge.pw_sc0056_01 w (hd.heap_1 w.params) p loose mean mg mb 148 [.ref r.aR, .str (S txt) tt, .str (S [a]) ta, .str (S [b]) tb] (rdr 154 w.params r ln tl [] kp lf kl)
      (fun v post => ∃ t kp', v = .str (S (twoL txt a b)) t ∧ post = rdr 154 w.params r ln tl [] kp' lf kl) := by
  dsimp only [MCon, rdr]
  intro dp un gd cn cs a0 ccd cl outer A₀ base h₀ L m s Q E hB0 hF0 hX0 hT0 hk hr hu hC hN0 hret
  k_dflt (walk_at "S_enterC")
  rename_i o4 o3 o2 o1 d4 d3 d2 d1
  rename Below _ _ _ _ => hB1
  rename Fr _ _ _ (bindL _ _ _) => hF1
  rename Top _ _ _ _ _ _ => hT1
  rename Frag.In _ _ => hX1
  rename News _ _ _ _ => hN1
  rename GSub _ _ _ => hG1
  rename Fr h₀ L _ m => hFG
  refine two_body (dp := dp + 1) (un := un + 3) (gd := gd) (fa := 148) (ccd := .ref 147) (outer := envX cn cs L a0 ccd cl :: outer) o1 o2 o3 o4 r ok ln tl lf kl kp txt a b tt ta tb hx9 hx1 hfr hab ha hb ha8 hb8 ?la ?d1 ?d2 ?d3 ?d4 rfl rfl rfl ?hE hB1 hF1 hX1 hT1 ?hr ?hu hC hN1 fun h' tk' m' tm kp' F N => ?_
  case la => omega
  case d1 => exact d1
  case d2 => exact d2
  case d3 => exact d3
  case d4 => exact d4
  case hr => omega
  case hu => omega
  case hE => passes_own
  exact leaveK_ F N fun F' N' => hret _ _ _ _ F' N' (mc_kept hG1 F) ⟨tm, kp', rfl, rfl⟩
end
section
local macro_rules | `(tactic| walk_at "zz0") => `(tactic| fail)
local macro_rules | `(tactic| walk_at "zz1") => `(tactic| fail)
local macro_rules | `(tactic| walk_at "zz2") => `(tactic| fail)
example : True := by
  k_with_none
  w_top off
  k_with "olt" => (first | assumption | ((fail_if_success refine oM ?_); refine oL ?_; k_extra "ole") | k_extra "olh")
  k_with "olh" => (refine oH (by assumption) (by k_extra "ole"))
  k_with "ole" => (first | exact Nat.le_refl _ | assumption | exact oB | ((first | refine oA ?_ | refine oA2 ?_ | refine oA3 ?_); k_extra "ocl") | (refine oS ?_; k_extra "ole") | (refine Nat.le_of_lt ?_; (first | assumption | k_extra "olh")) | exact oE)
  k_with "olt2" => (first | k_extra "oas" | ((fail_if_success refine oM ?_); refine oL ?_; k_extra "ole2") | k_extra "olh2")
  k_with "olh2" => (refine oH (by k_extra "oas") (by k_extra "ole2"))
  k_with "ole2" => (first | exact Nat.le_refl _ | k_extra "oas" | exact oB | ((first | refine oA ?_ | refine oA2 ?_ | refine oA3 ?_); k_extra "ocl") | (refine oS ?_; k_extra "ole2") | (refine Nat.le_of_lt ?_; (first | k_extra "oas" | k_extra "olh2")) | exact oE)
  k_with "opu" => (first | exact oB | exact Nat.le_refl _ | (refine oS ?_; k_extra "opu"))
  k_with "olt0" => (refine oL ?_; k_extra "opu")
  k_with "one" => (first | (refine Nat.ne_of_gt ?_; (fail_if_success refine oM ?_); k_extra "olt0") | (refine Nat.ne_of_lt ?_; (fail_if_success refine oM ?_); k_extra "olt0") | exact Ne.symm (by assumption) | (refine Nat.ne_of_gt ?_; (fail_if_success refine oM ?_); k_extra "oas") | (refine Nat.ne_of_lt ?_; (fail_if_success refine oM ?_); k_extra "oas") | (refine Nat.ne_of_gt ?_; (fail_if_success refine oM ?_); k_extra "odd") | (refine Nat.ne_of_lt ?_; (fail_if_success refine oM ?_); k_extra "odd") | (refine Nat.ne_of_gt ?_; (fail_if_success refine oM ?_); k_extra "olt") | (refine Nat.ne_of_lt ?_; (fail_if_success refine oM ?_); k_extra "olt") | (refine Nat.ne_of_gt ?_; (fail_if_success refine oM ?_); k_extra "olt2") | (refine Nat.ne_of_lt ?_; (fail_if_success refine oM ?_); k_extra "olt2") | decide)
  k_with "ol1" => (first | ((fail_if_success refine oM ?_); first | k_extra "oas" | k_extra "olt0" | k_extra "odd" | k_extra "olt" | k_extra "olt2") | k_extra "ocl" | exact oT0 | exact oT5)
  k_with "oe1" => (first | ((fail_if_success refine oN ?_); first | k_extra "oas" | k_extra "opu" | k_extra "ole" | k_extra "ole2" | exact oE (by k_extra "oas")) | k_extra "ocl" | k_extra "olit" | k_extra "oas")
  k_with "olit" => (first | exact oT4 | exact oP | exact oP2 | exact oT1 | exact oT2 | exact oT3 | exact oQ5 | exact oQ1 | exact oQ2 | exact oQ3 | exact oQ4 | exact oQ6 | exact oD)
  k_with "ocl" => (with_unfolding_all exact Nat.le_of_ble_eq_true rfl)
  k_with "oas" => (first | assumption | exact oa1 | exact ob1 | exact oa2 | exact ob2 | exact oa3 | exact ob3 | exact oa4 | exact ob4 | exact oa5 | exact ob5 | exact oa6 | exact ob6 | exact oa7 | exact ob7)
  k_with "odd" => (first | exact oa1 ob7 | exact oa2 ob7 | exact oa3 ob7 | exact oa4 ob7 | exact oa5 ob7 | exact oa6 ob7 | exact oa7 ob7 | exact oa1 (ob7 ob7) | exact oa2 (ob7 ob7) | exact oa3 (ob7 ob7) | exact oa4 (ob7 ob7) | exact oa5 (ob7 ob7) | exact oa6 (ob7 ob7) | exact oa7 (ob7 ob7) | exact ob1 ob7 | exact ob2 ob7 | exact ob3 ob7 | exact ob4 ob7 | exact ob5 ob7 | exact ob6 ob7 | exact ob7 ob7)
  k_with "oin" => (first | decide | exact oI1 | exact oI3 | exact oI2 (by k_extra "oas"))
  k_with "om" => (with_reducible first | (first | assumption | ((fail_if_success fail_if_success refine oXn ?_); k_extra "one") | ((fail_if_success fail_if_success refine oXl ?_); k_extra "ol1") | ((fail_if_success fail_if_success refine oXe ?_); k_extra "oe1") | k_extra "oin") | fail)
  k_with "S_fit" => (first | omega | ((simp only [S_len, List.length_append, List.length_cons, List.length_nil, List.length_take, List.length_drop, dots, PySem.sizeLine_eq]); omega))
  k_with "call builtin:len" => (((with_reducible show wpAny _ _ (call (Value.builtin "len") [Value.str (S _) _]) _ _ _); refine r_len (by walk_at "S_fit") ?_))
  k_with "call builtin:str.startswith" => (((with_reducible show wpAny _ _ (call (Value.builtin "str.startswith") [Value.str (S _) _, Value.str (S _) _]) _ _ _); refine r_starts ?_))
  k_with "call builtin:str.endswith" => (((with_reducible show wpAny _ _ (call (Value.builtin "str.endswith") [Value.str (S _) _, Value.str (S _) _]) _ _ _); refine r_ends ?_))
  k_with "truthy str" => (((with_reducible show wpAny _ _ (truthy (Value.str (S _) _)) _ _ _); refine r_truthy (by walk_at "S_fit") ?_))
  k_with "exec For Name Name cons nil" => ((k_here; (rename Fr _ _ _ _ => Z6Xa); (with_unfolding_all refine' For_invVF Z6Xa ?Q6Xa ?Q6Xb ?_; (case Q6Xa => exact rfl); (case Q6Xb => exact rfl); k_whole)))
  k_with "pyIter ref" => (((with_reducible show wpAny _ _ (pyIter (Value.ref _)) (fun it s₂ => LoopAtV _ _ _ _ _ _ _ _ _ it s₂) _ _); k_listUnr))
  k_with "S_enter" => ((refine' code_defG (news := []) ?Q8Xa ?Q8Xb ?Q8Xc ?Q8Xd ?Q8Xe ?Q8Xf ?Q8Xg ?Q8Xh ?Q8Xi ?Q8Xj ?Q8Xk ?Q8Xl ?Q8Xm ?_ ?Q8Xn ?Q8Xo ?Q8Xp ?Q8Xq; (case Q8Xf => exact rfl); (case Q8Xg => exact rfl); (case Q8Xh => assumption); (case Q8Xa => k_asm); (case Q8Xb => k_asm); (case Q8Xc => k_asm); (case Q8Xd => exact News.nil); (case Q8Xe => k_asm); (case Q8Xi => k_is); (case Q8Xj => k_is); (case Q8Xk => ktr_room); (case Q8Xl => exact BindsTo.of_eq rfl); (case Q8Xq => decide); (case Q8Xm => exact locs rfl); (case Q8Xn => exact rfl); (case Q8Xo => exact rfl); (case Q8Xp => exact rfl); k_whole; intro Z8Xh Z8Xd Z8Xi Z8Xc Z8Xb Z8Xe Z8Xa Z8Xg Z8Xf Z8Xj; (try dsimp only [List.map_nil] at Z8Xj); (try dsimp only); (try k_lift Z8Xa); (try k_fold)))
  k_with "S_look" => (first | exact rfl | assumption | exact (if_pos rfl) | (refine (if_neg (by decide)).trans ?_; walk_at "S_look"))
  k_with "eval Name" => ((k_here; k_dflt (refine' nameX_L ?QaXa ?QaXb ?_ ?QaXc ?QaXd; (case QaXa => k_asm); (case QaXc => rfl); (case QaXd => rfl); (case QaXb => walk_at "S_look"); k_whole)))
  k_with "S_lit" => (first | (with_reducible exact lit_dots) | (with_reducible rfl))
  k_with "S_nn" => (first | omega | ((simp only [List.length_append, List.length_cons, List.length_nil, List.length_take, List.length_drop, dots] at *); omega))
  k_with "binaryOp Add str str" => (((with_reducible show wpAny _ _ (binaryOp _ (Value.str _ _) (Value.str _ _)) _ _ _); k_dflt (refine r_add (by walk_at "S_lit") (by walk_at "S_lit") (by walk_at "S_fit") ?_); intro _ _))
  k_with "subscriptTail Name Slice str ref" => (((with_reducible show wpAny _ _ (subscriptTail _ (Expr.Slice none (some _) none _) (Value.str (S _) _) _) _ _ _); (with_reducible rename Fr _ _ _ _ => ZeXa); (with_reducible rename News _ _ _ _ => ZeXb); (refine r_sliceTo (s := ⟨_, _, _, _, _⟩) ZeXa ZeXb (by walk_at "S_nn") (by walk_at "S_fit") ?_); intro _ _ _ _ _))
  k_with "subscriptTail Name Slice str ref" => (((with_reducible show wpAny _ _ (subscriptTail _ (Expr.Slice (some _) none none _) (Value.str (S _) _) _) _ _ _); (with_reducible rename Fr _ _ _ _ => ZfXa); (with_reducible rename News _ _ _ _ => ZfXb); (refine r_sliceFrom (s := ⟨_, _, _, _, _⟩) ZfXa ZfXb (by walk_at "S_nn") (by walk_at "S_fit") ?_); intro _ _ _ _ _))
  k_with "exec For Name Call cons nil" => ((k_here; (rename Fr _ _ _ _ => ZgXa); (with_unfolding_all refine' For_invVF ZgXa ?QgXa ?QgXb ?_; (case QgXa => exact rfl); (case QgXb => exact rfl); k_whole)))
  k_with "S_use" => ((refine' pcon_use ?QhXa ?QhXb ?QhXc ?QhXd ?QhXe ?QhXf ?QhXg ?QhXh ?_; (case QhXb => k_asm); (case QhXc => k_asm); (case QhXd => k_asm); (case QhXe => k_asm); (case QhXa => walk_at "S_con"); (case QhXf => first | exact rfl | assumption); (case QhXg => ktr_room); (case QhXh => ktr_units)))
  k_with "call ref" => ((k_here; k_dflt (walk_at "S_use"); intro ZiXf ZiXd ZiXe ZiXb; (have ZiXa := Fr.keeps (by k_asm) ZiXb); (have ZiXc := News.grown (by k_asm) ZiXb); walk_at "S_back" <;> ((try dsimp only); (try k_fold))))
  k_with "pyIter ref" => (k_extra "S_loop")
  k_with "S_bool" => ((intro ZkXa; (rcases bool_or ZkXa with ⟨R8, R7⟩ | ⟨R8, R7⟩) <;> subst R7))
  k_with "call builtin:list.append" => ((k_here; (with_reducible show wpAny _ _ (call (Value.builtin _) [Value.ref _, _]) _ _ _); k_dflt (refine' append_K ?QlXa ?QlXb ?QlXc ?_ ?QlXd; (case QlXa => k_asm); (case QlXb => k_asm); (case QlXc => k_upd); (case QlXd => exact size_ok (k := 100000) (by omega) (by decide)); k_whole); intro ZlXc ZlXa ZlXb; (try k_sweep)))
  k_with "m_k_room" => (ktr_room)
  k_with "m_k_units" => (ktr_units)
  k_with "S_enterM" => ((refine' code_defG ?QoXa ?QoXb ?QoXc ?QoXd ?QoXe ?QoXf ?QoXg ?QoXh ?QoXi ?QoXj ?QoXk ?QoXl ?QoXm ?_ ?QoXn ?QoXo ?QoXp ?QoXq; (case QoXf => exact rfl); (case QoXg => exact rfl); (case QoXh => assumption); (case QoXa => k_asm); (case QoXb => k_asm); (case QoXc => k_asm); (case QoXd => k_asm); (case QoXe => k_asm); (case QoXi => k_is); (case QoXj => k_is); (case QoXk => ktr_room); (case QoXl => exact BindsTo.of_eq rfl); (case QoXq => decide); (case QoXm => exact locs rfl); (case QoXn => exact rfl); (case QoXo => exact rfl); (case QoXp => exact rfl); k_whole; intro ZoXh ZoXd ZoXi ZoXc ZoXb ZoXe ZoXa ZoXg ZoXf ZoXj; (try dsimp only [List.map_nil, List.map_cons] at ZoXj); (try dsimp only); (try k_lift ZoXa); (try k_fold)))
  k_with "callWith" => (((with_reducible show wpAny _ _ (callWith _ (Prod.fst _) (Prod.snd _) _ _) _ _ _); dsimp only))
  k_with "S_int" => (first | omega | decide | ((simp only [List.length_cons, List.length_nil, decide_eq_true_eq, decide_eq_false_iff_not, beq_iff_eq, beq_eq_false_iff_ne, ne_eq, Int.not_lt, Int.not_le] at *); omega))
  k_with "binaryOp FloorDiv int int" => (((with_reducible show wpAny _ _ (binaryOp _ (Value.int _ _) (Value.int _ _)) _ _ _); k_dflt (refine r_fdiv (by walk_at "S_int") (by walk_at "S_int") ?_); intro _ _))
  k_with "binaryOp Mod int int" => (((with_reducible show wpAny _ _ (binaryOp _ (Value.int _ _) (Value.int _ _)) _ _ _); k_dflt (refine r_fmod (by walk_at "S_int") ?_); intro _ _))
  k_with "S_item" => (((with_reducible show wpAny _ _ (subscriptTail _ _ (Value.str (S _) _) (Value.int _ _)) _ _ _); k_dflt (refine r_item (by walk_at "S_int") (by walk_at "S_int") (by walk_at "S_fit") ?_); intro _ _))
  k_with "subscriptTail Name BinOp str int" => (walk_at "S_item")
  k_with "subscriptTail Name Constant str int" => (walk_at "S_item")
  k_with "subscriptTail Name Name str int" => (walk_at "S_item")
  k_with "S_lit" => (first | (with_reducible exact lit_dots) | (with_reducible exact lit_empty) | (with_reducible exact lit34) | (with_reducible exact lit9234) | (with_reducible exact lit92) | (with_reducible exact lit10) | (with_reducible exact lit38) | (with_reducible exact lit59) | (with_reducible rfl))
  k_with "call builtin:str.replace" => (((with_reducible show wpAny _ _ (call (Value.builtin _) [Value.str (S _) _, Value.str _ _, Value.str _ _]) _ _ _); k_dflt (refine r_replace (by walk_at "S_lit") (by walk_at "S_lit") (by decide) (Nat.succ_ne_zero _) (Nat.succ_ne_zero _) (Nat.ne_of_lt (Nat.lt_succ_self _)) (by decide) (by walk_at "S_nn") ?_); intro _ _))
  k_with "call builtin:str.join" => ((k_here; (with_reducible show wpAny _ _ (call (Value.builtin _) [Value.str _ _, Value.ref _]) _ _ _); k_dflt (refine r_join (by walk_at "S_lit") (by walk_at "S_isl") (by walk_at "S_strs") (by walk_at "S_sum") ?_); intro _ _))
  k_with "S_isl" => (first | assumption | exact ⟨LCg.lst _, News.get (by k_asm) (by k_mem), rfl, _, rfl⟩ | is_list)
  k_with "S_strs" => (first | exact StrsAre.nil | assumption | (exact CharsAre.strs (by assumption)))
  k_with "binaryOp Mult str int" => (((with_reducible show wpAny _ _ (binaryOp _ (Value.str (S _) _) (Value.int _ _)) _ _ _); k_dflt (refine r_mul (by walk_at "S_int") (by walk_at "S_int") (by walk_at "S_nn") ?_); intro _ _))
  k_with "S_enterC" => ((refine' code_defCG ?Q13Xa ?Q13Xb ?Q13Xc ?Q13Xd ?Q13Xe ?Q13Xf ?Q13Xg ?Q13Xh ?Q13Xi ?Q13Xj ?Q13Xk ?Q13Xl ?Q13Xm ?Q13Xn ?_ ?Q13Xo ?Q13Xp ?Q13Xq; (case Q13Xf => exact rfl); (case Q13Xg => exact rfl); (case Q13Xh => assumption); (case Q13Xa => k_asm); (case Q13Xb => k_asm); (case Q13Xc => k_asm); (case Q13Xd => k_asm); (case Q13Xe => k_asm); (case Q13Xi => k_is); (case Q13Xj => k_is); (case Q13Xk => ktr_room); (case Q13Xl => exact BindsTo.of_eq rfl); (case Q13Xm => rfl); (case Q13Xn => decide); (case Q13Xo => exact rfl); (case Q13Xp => exact rfl); (case Q13Xq => exact rfl); k_whole; intro Z13Xj Z13Xd Z13Xk Z13Xo Z13Xi Z13Xc Z13Xb Z13Xe Z13Xh Z13Xa Z13Xg Z13Xf Z13Xm Z13Xl Z13Xn; (try dsimp only [List.map_nil, List.map_cons] at Z13Xl); (try k_lt Z13Xm); k_cells Z13Xh; (try simp only [List.cons_append, List.nil_append] at Z13Xe); (try dsimp only); (try k_lift Z13Xa); (try k_fold)))
  k_with "S_lcs" => ((k_here; k_dflt (refine ListComp_S (_F₀ := by k_asm) (by rfl) (by decide) (by rfl) (by decide) (by rfl) ?_)))
  k_with "S_lit" => (first | (with_reducible exact lit_dots) | (with_reducible exact lit_empty) | (with_reducible exact lit34) | (with_reducible exact lit9234) | (with_reducible exact lit92) | (with_reducible exact lit10) | (with_reducible exact lit38) | (with_reducible exact lit59) | (with_reducible exact lit60) | (with_reducible exact lit62) | (with_reducible exact lit13) | (with_reducible exact lit9) | (with_reducible exact litamp) | (with_reducible exact litlt) | (with_reducible exact litgt) | (with_reducible exact litquot) | (with_reducible rfl))
  k_with "S_sum" => (assumption)
  k_with "eval ListComp" => ((k_here; (with_reducible show wpAny _ _ (eval (PySem.Expr.ListComp _ [⟨PySem.Expr.Tuple _ _ _, _, [], 0⟩] _ _) _) _ _ _); k_dflt (refine ListComp_E (_F₀ := by k_asm) (by rfl) (by decide) (by rfl) (by decide) (by rfl) (by rfl) (by decide) ?_)))
  k_with "eval ListComp" => ((k_here; (with_reducible show wpAny _ _ (eval (PySem.Expr.ListComp _ [⟨PySem.Expr.Name _ _, _, [], 0⟩] _ _) _) _ _ _); k_dflt (refine LCg.ListComp_U (F₀ := by k_asm) (by rfl) (by decide) (by rfl) (by decide) (by rfl) ?_)))
  k_with "call type:enumerate" => (refine stop9 ?_)
  k_with "exec Assign cons ListComp" => ((k_here; k_dflt (refine wpAny_Assign_Name ?_ (by rfl))))
  k_with "CompSrc" => (refine stop9 ?_)
  k_with "CompEnd" => (refine stop9 ?_)
  k_with "FinE" => (((unfold LCg.FinE); intro Z1dXa Z1dXd Z1dXf Z1dXb Z1dXc Z1dXe; (try simp only [List.nil_append, List.cons_append] at Z1dXc); (try dsimp only)))
  k_with "FinA" => (((unfold LCg.FinA); intro Z1eXa Z1eXd Z1eXf Z1eXb Z1eXc Z1eXe; (try simp only [List.nil_append, List.cons_append] at Z1eXc); (try dsimp only)))
  k_with "m_k_ne" => (first | (refine neN ?_; (try dsimp only); omega) | exact off1_ne (by assumption) (by k_mem) | exact Ne.symm (off1_ne (by assumption) (by k_mem)))
  k_with "eval ListComp" => ((k_here; (with_reducible show wpAny _ _ (eval (PySem.Expr.ListComp _ [⟨PySem.Expr.Name _ _, _, [_], 0⟩] _ _) _) _ _ _); k_dflt (refine LCt.ListComp_T (F₀ := by k_asm) (by rfl) (by decide) (by rfl) (by decide) (by rfl) ?_)))
  k_with "CompSrcT" => (refine stop9 ?_)
  k_with "S_laps" => ((intro Z1iXf; obtain ⟨Z1iXa, Z1iXj, Z1iXi, Z1iXh, Z1iXc, Z1iXd, Z1iXe⟩ := Z1iXf; subst Z1iXh; (obtain ⟨Z1iXb, Z1iXg⟩ := news_add (by k_asm) (by k_asm) (by k_asm) Z1iXc Z1iXd)))
  k_with "S_il" => (((rename News _ _ _ _ => Z1jXa); exact ⟨_, News.get Z1jXa (by k_mem), rfl, _, rfl⟩))
  k_with "execs cons" => (((have _sf : StopH := by assumption); clear _sf; refine stop9 ?_))
  k_with "compareOp Eq ref ref" => ((k_here; (with_reducible show wpAny _ _ (compareOp CmpOp.Eq (Value.ref _) (Value.ref _)) _ _ _); k_dflt (refine' eq_intsK ?Q1lXa ?Q1lXb ?Q1lXc ?Q1lXd ?Q1lXe ?_; (case Q1lXa => walk_at "S_il"); (case Q1lXc => walk_at "S_il"); (case Q1lXb => assumption); (case Q1lXd => assumption); (case Q1lXe => ke_room))))
  k_with "S_con" => (exact con_laps _ _ (by omega) (by assumption))
  k_with "S_back" => (walk_at "S_laps")
  k_with "call ref" => (refine stop9 ?_)
  k_with "call ref" => ((k_here; k_dflt (walk_at "S_use"); intro Z1pXf Z1pXd Z1pXe Z1pXb; (have Z1pXa := Fr.keeps (by k_asm) Z1pXb); (have Z1pXc := News.grown (by k_asm) Z1pXb); walk_at "S_back" <;> ((try dsimp only); (try k_fold))))
  trivial
theorem main15 {w : World} {p loose mean mg mb} {dp un : Nat} {gd : Option (List Code)} {L fa : Addr} {ccd : Value} {outer : List Env} {A₀ : Around} {base g : Heap} {m : PySem.Str → Option Value} {s : Shared} {Q : Flow → Shared → Prop} {E : Value → Shared → Prop}
    (o1 o2 o3 o4 o5 o6 o7 : Obj) (Dh G : Addr) (a0 a1 a2 : Int) (t0 t1 t2 : Tok) (q0 : 0 ≤ a0) (q1 : 0 ≤ a1) (q2 : 0 ≤ a2) (fw : Nat) (wr : List Nat → List Nat) (mk f0 f1 f2 : List Nat) (tm u0 u1 u2 : Tok) (hwr : (fw, wr, mk, f0, f1, f2) ∈ wrT) (d2 : o2.data = .cell (some (.ref Dh))) (d3 : o3.data = .cell (some (.str (S mk) tm))) (d4 : o4.data = .cell (some (.ref G))) (txt : List Nat) (hx9 : txt.length ≤ 9) (hx1 : txt ≠ []) (tt : Tok) (d6 : o6.data = .cell (some (.str (S txt) tt))) (hfr : 46 ∉ txt) (Dl : Addr) (pl : List Value) (hpl2 : IntsAre pl (nI (lapsL txt))) (d7 : o7.data = .cell (some (.ref Dl))) (lh : @LT.lt Nat _ (L + 1 + 1 + 1 + 1 + 1 + 1 + 1) Dh) (lg : @LT.lt Nat _ Dh G) (x y z : Nat) (ts : Tok) (rx : R8 x) (ry : R8 y) (rz : R8 z) (hxy : x ≠ y) (hsg : m (PySem.Str.ofString "signs") = some (.str (S [x, y, z]) ts)) (hwn : m (PySem.Str.ofString "writer") = some (.ref fw)) (Dp : Addr) (p0 p1 p2 : List Nat) (v0 v1 v2 : Tok) (pc0 : Pc x y z p0) (pc1 : Pc x y z p1) (pc2 : Pc x y z p2) (pn0 : p0 ≠ []) (lp : @LT.lt Nat _ G Dp) (hpn : m (PySem.Str.ofString "pieces") = some (.ref Dp)) (w0 w1 w2 : Int) (tp : Tok) (hpg : m (PySem.Str.ofString "page") = some (.str (S (pageL p0 p1 p2 w0 w1 w2)) tp)) (r : RP) (ok : r.Ok) (kp : Nat) (ps : Array Value) (lr : @LT.lt Nat _ Dp r.aC) (d5 : o5.data = .cell (some (.ref r.aR))) (tl : Tok) (lf : List Value) (kl : Nat) (Hd : Addr) (b0 b1 b2 : Tok) (hhd : m (PySem.Str.ofString "heard") = some (.ref Hd)) (tr : Tok) (hrs : m (PySem.Str.ofString "rest") = some (.str (S []) tr)) (Dr : Addr) (hrm : m (PySem.Str.ofString "room") = some (.ref Dr)) (Da : Addr) (hah : m (PySem.Str.ofString "ahead") = some (.ref Da)) (hofl : Off1 Dl ((Hd, listOf [.str (S p0) b0, .str (S p1) b1, .str (S p2) b2].toArray 3) :: [(Dp, listOf [.str (S p0) v0, .str (S p1) v1, .str (S p2) v2].toArray 0), (G, tupObj [.str (S f0) u0, .str (S f1) u1, .str (S f2) u2]), (Dh, listOf [.int a0 t0, .int a1 t1, .int a2 t2].toArray 3), (L + 1 + 1 + 1 + 1 + 1 + 1 + 1, o7), (L + 1 + 1 + 1 + 1 + 1 + 1, o6), (L + 1 + 1 + 1 + 1 + 1, o5), (L + 1 + 1 + 1 + 1, o4), (L + 1 + 1 + 1, o3), (L + 1 + 1, o2), (L + 1, o1), (r.aP, listOf (([] : List Value)).toArray kp), (r.aR, instObj 59 r.dR), (r.dR, dictOf [ent w.params "lineno" r.t1 (.int ((1 + ((pageL p0 p1 p2 w0 w1 w2).count 10 : Nat) : Int)) tl), ent w.params "instream" r.t2 (.ref r.aS), ent w.params "whitespace" r.t3 (.str wsT r.t4), ent w.params "pushback" r.t5 (.ref r.aP)] 4), (r.aF, kla_obj (PySem.Str.ofString "<lambda>") r.q (lamArgs 154) (lamBody 154) lamScope [(PySem.Str.ofString "left", r.aC)] r.pm r.cF r.ctv), (r.cF, r.oc), (r.aP2, listOf #[] 0), (r.aS, instObj 59 r.dS), (r.dS, dictOf [ent w.params "lineno" r.s1 (.int 1 r.s0), ent w.params "instream" r.s2 .none, ent w.params "whitespace" r.s3 (.str wsT r.s4), ent w.params "pushback" r.s5 (.ref r.aP2), ent w.params "read" r.s6 (.ref r.aF)] 5), (r.aL, listOf (lf).toArray kl), (r.aC, r.oC), (107, tabObj ps)]))
    (hB : Below A₀ base outer g) (hF : Fr g L s.heap m) (hX : (hd.heap_1 w.params).In g) (hT : Top p loose mean mg mb g) (hr : dp + 30 < recursionLimit) (hu : un + 16 * 30 < cLine) (hC : CodeHd base 111 107) (h7 : @LT.lt Nat _ 107 L) (hN : News g L s.heap ((Da, lst []) :: (Dr, lst []) :: ((Dl, lst pl) :: ((Hd, listOf [.str (S p0) b0, .str (S p1) b1, .str (S p2) b2].toArray 3) :: [(Dp, listOf [.str (S p0) v0, .str (S p1) v1, .str (S p2) v2].toArray 0), (G, tupObj [.str (S f0) u0, .str (S f1) u1, .str (S f2) u2]), (Dh, listOf [.int a0 t0, .int a1 t1, .int a2 t2].toArray 3), (L + 1 + 1 + 1 + 1 + 1 + 1 + 1, o7), (L + 1 + 1 + 1 + 1 + 1 + 1, o6), (L + 1 + 1 + 1 + 1 + 1, o5), (L + 1 + 1 + 1 + 1, o4), (L + 1 + 1 + 1, o3), (L + 1 + 1, o2), (L + 1, o1), (r.aP, listOf (([] : List Value)).toArray kp), (r.aR, instObj 59 r.dR), (r.dR, dictOf [ent w.params "lineno" r.t1 (.int ((1 + ((pageL p0 p1 p2 w0 w1 w2).count 10 : Nat) : Int)) tl), ent w.params "instream" r.t2 (.ref r.aS), ent w.params "whitespace" r.t3 (.str wsT r.t4), ent w.params "pushback" r.t5 (.ref r.aP)] 4), (r.aF, kla_obj (PySem.Str.ofString "<lambda>") r.q (lamArgs 154) (lamBody 154) lamScope [(PySem.Str.ofString "left", r.aC)] r.pm r.cF r.ctv), (r.cF, r.oc), (r.aP2, listOf #[] 0), (r.aS, instObj 59 r.dS), (r.dS, dictOf [ent w.params "lineno" r.s1 (.int 1 r.s0), ent w.params "instream" r.s2 .none, ent w.params "whitespace" r.s3 (.str wsT r.s4), ent w.params "pushback" r.s5 (.ref r.aP2), ent w.params "read" r.s6 (.ref r.aF)] 5), (r.aL, listOf (lf).toArray kl), (r.aC, r.oC), (107, tabObj ps)]))))
    (next : Ends g L s Q) :
    wpAny (model Challenge.pw_sc0056_01 w) (lawA dp un gd L fa ccd outer) (execs (lawBody.drop 15) (lawEnv L fa ccd)) Q E s := by
  have h46x : x ≠ 46 := by unfold R8 at rx; omega
  have h46y : y ≠ 46 := by unfold R8 at ry; omega
  obtain ⟨h2l, h2n, h2b⟩ := two_law hxy txt.length txt (Nat.le_refl _) hx1 hx9
  have h2f := bin_free h46x h46y h2b
  have h29 : (twoL txt x y).length ≤ 900 := by omega
  have hin : ∀ q ∈ rdr 154 w.params r (1 + ((pageL p0 p1 p2 w0 w1 w2).count 10 : Nat) : Int) tl [] kp lf kl, q ∈ ((Hd, listOf [.str (S p0) b0, .str (S p1) b1, .str (S p2) b2].toArray 3) :: [(Dp, listOf [.str (S p0) v0, .str (S p1) v1, .str (S p2) v2].toArray 0), (G, tupObj [.str (S f0) u0, .str (S f1) u1, .str (S f2) u2]), (Dh, listOf [.int a0 t0, .int a1 t1, .int a2 t2].toArray 3), (L + 1 + 1 + 1 + 1 + 1 + 1 + 1, o7), (L + 1 + 1 + 1 + 1 + 1 + 1, o6), (L + 1 + 1 + 1 + 1 + 1, o5), (L + 1 + 1 + 1 + 1, o4), (L + 1 + 1 + 1, o3), (L + 1 + 1, o2), (L + 1, o1), (r.aP, listOf (([] : List Value)).toArray kp), (r.aR, instObj 59 r.dR), (r.dR, dictOf [ent w.params "lineno" r.t1 (.int ((1 + ((pageL p0 p1 p2 w0 w1 w2).count 10 : Nat) : Int)) tl), ent w.params "instream" r.t2 (.ref r.aS), ent w.params "whitespace" r.t3 (.str wsT r.t4), ent w.params "pushback" r.t5 (.ref r.aP)] 4), (r.aF, kla_obj (PySem.Str.ofString "<lambda>") r.q (lamArgs 154) (lamBody 154) lamScope [(PySem.Str.ofString "left", r.aC)] r.pm r.cF r.ctv), (r.cF, r.oc), (r.aP2, listOf #[] 0), (r.aS, instObj 59 r.dS), (r.dS, dictOf [ent w.params "lineno" r.s1 (.int 1 r.s0), ent w.params "instream" r.s2 .none, ent w.params "whitespace" r.s3 (.str wsT r.s4), ent w.params "pushback" r.s5 (.ref r.aP2), ent w.params "read" r.s6 (.ref r.aF)] 5), (r.aL, listOf (lf).toArray kl), (r.aC, r.oC), (107, tabObj ps)]) := by
    dsimp only [rdr, rdr7]
    lcg_sub
  obtain ⟨hp, gns, dr, tk, os⟩ := s
  conv in (List.drop _ lawBody) => whnf
  (try clear sfl)
  walk1
  ((try clear sfl); have sfl : StopH := trivial)
  k_steps
  refine Stop9.go (wpAny_call ?_)
  rename Fr _ _ _ _ => F5
  rename News _ _ _ _ => N5
  k_dflt (refine con_two r ok (1 + ((pageL p0 p1 p2 w0 w1 w2).count 10 : Nat) : Int) tl kp lf kl txt x y tt _ _ hx9 hx1 hfr hxy h46x h46y (r8_lt rx) (r8_lt ry) _ _ _ _ _ _ _ _ _ _ _ _ _ _ ⟨_, _, _, _, _⟩ _ _ hB F5 hX hT ?kk ?kr ?ku hC (news_sub N5 ?s0) fun v post h' tk' F' N' K' R => ?_)
  case s0 =>
    dsimp only [rdr, rdr7]
    lcg_sub
  case kk => rfl
  case kr => ktr_room
  case ku => ktr_units
  obtain ⟨t9, kp9, rfl, rfl⟩ := R
  have No : News g L h' ([(Dl, lst pl), (L + 1 + 1 + 1 + 1 + 1 + 1 + 1, o7), (L + 1 + 1 + 1 + 1 + 1 + 1, o6), (L + 1 + 1 + 1 + 1 + 1, o5), (L + 1 + 1 + 1 + 1, o4), (L + 1 + 1 + 1, o3), (L + 1 + 1, o2), (L + 1, o1), (107, tabObj ps)] ++ rdr 154 w.params r (1 + ((pageL p0 p1 p2 w0 w1 w2).count 10 : Nat) : Int) tl [] kp9 lf kl) := by
    refine con_own (news_sub N5 ?s1) K' N' ?s2
    case s1 => lcg_sub
    case s2 =>
      intro p hp
      rcases List.mem_cons.mp hp with rfl | hp
      · exact notin_off fun q hq => off1_mem hofl q (hin q hq)
      refine notin_lt ok ?_
      simp only [List.mem_cons, List.not_mem_nil, or_false] at hp
      rcases hp with rfl | rfl | rfl | rfl | rfl | rfl | rfl | rfl <;> (dsimp only; omega)
  clear N5 F5 N' K'
  dsimp only [rdr, rdr7, List.cons_append, List.nil_append] at No ⊢
  k_steps
  rename Fr _ _ _ _ => F6
  rename News _ _ _ _ => N6
  rw [h2l, decide_eq_true rfl]
  exact next _ _ _ _ F6 (news_sub N6 (by lcg_sub))
end
section
example : True := by
  k_with_none
  w_top off
  k_with "olt" => (first | assumption | ((fail_if_success refine oM ?_); refine oL ?_; k_extra "ole") | k_extra "olh")
  k_with "olh" => (refine oH (by assumption) (by k_extra "ole"))
  k_with "ole" => (first | exact Nat.le_refl _ | assumption | exact oB | ((first | refine oA ?_ | refine oA2 ?_ | refine oA3 ?_); k_extra "ocl") | (refine oS ?_; k_extra "ole") | (refine Nat.le_of_lt ?_; (first | assumption | k_extra "olh")) | exact oE)
  k_with "olt2" => (first | k_extra "oas" | ((fail_if_success refine oM ?_); refine oL ?_; k_extra "ole2") | k_extra "olh2")
  k_with "olh2" => (refine oH (by k_extra "oas") (by k_extra "ole2"))
  k_with "ole2" => (first | exact Nat.le_refl _ | k_extra "oas" | exact oB | ((first | refine oA ?_ | refine oA2 ?_ | refine oA3 ?_); k_extra "ocl") | (refine oS ?_; k_extra "ole2") | (refine Nat.le_of_lt ?_; (first | k_extra "oas" | k_extra "olh2")) | exact oE)
  k_with "opu" => (first | exact oB | exact Nat.le_refl _ | (refine oS ?_; k_extra "opu"))
  k_with "olt0" => (refine oL ?_; k_extra "opu")
  k_with "one" => (first | (refine Nat.ne_of_gt ?_; (fail_if_success refine oM ?_); k_extra "olt0") | (refine Nat.ne_of_lt ?_; (fail_if_success refine oM ?_); k_extra "olt0") | exact Ne.symm (by assumption) | (refine Nat.ne_of_gt ?_; (fail_if_success refine oM ?_); k_extra "oas") | (refine Nat.ne_of_lt ?_; (fail_if_success refine oM ?_); k_extra "oas") | (refine Nat.ne_of_gt ?_; (fail_if_success refine oM ?_); k_extra "odd") | (refine Nat.ne_of_lt ?_; (fail_if_success refine oM ?_); k_extra "odd") | (refine Nat.ne_of_gt ?_; (fail_if_success refine oM ?_); k_extra "olt") | (refine Nat.ne_of_lt ?_; (fail_if_success refine oM ?_); k_extra "olt") | (refine Nat.ne_of_gt ?_; (fail_if_success refine oM ?_); k_extra "olt2") | (refine Nat.ne_of_lt ?_; (fail_if_success refine oM ?_); k_extra "olt2") | decide)
  k_with "ol1" => (first | ((fail_if_success refine oM ?_); first | k_extra "oas" | k_extra "olt0" | k_extra "odd" | k_extra "olt" | k_extra "olt2") | k_extra "ocl" | exact oT0 | exact oT5)
  k_with "oe1" => (first | ((fail_if_success refine oN ?_); first | k_extra "oas" | k_extra "opu" | k_extra "ole" | k_extra "ole2" | exact oE (by k_extra "oas")) | k_extra "ocl" | k_extra "olit" | k_extra "oas")
  k_with "olit" => (first | exact oT4 | exact oP | exact oP2 | exact oT1 | exact oT2 | exact oT3 | exact oQ5 | exact oQ1 | exact oQ2 | exact oQ3 | exact oQ4 | exact oQ6 | exact oD)
  k_with "ocl" => (with_unfolding_all exact Nat.le_of_ble_eq_true rfl)
  k_with "oas" => (first | assumption | exact oa1 | exact ob1 | exact oa2 | exact ob2 | exact oa3 | exact ob3 | exact oa4 | exact ob4 | exact oa5 | exact ob5 | exact oa6 | exact ob6 | exact oa7 | exact ob7)
  k_with "odd" => (first | exact oa1 ob7 | exact oa2 ob7 | exact oa3 ob7 | exact oa4 ob7 | exact oa5 ob7 | exact oa6 ob7 | exact oa7 ob7 | exact oa1 (ob7 ob7) | exact oa2 (ob7 ob7) | exact oa3 (ob7 ob7) | exact oa4 (ob7 ob7) | exact oa5 (ob7 ob7) | exact oa6 (ob7 ob7) | exact oa7 (ob7 ob7) | exact ob1 ob7 | exact ob2 ob7 | exact ob3 ob7 | exact ob4 ob7 | exact ob5 ob7 | exact ob6 ob7 | exact ob7 ob7)
  k_with "oin" => (first | decide | exact oI1 | exact oI3 | exact oI2 (by k_extra "oas"))
  k_with "om" => (with_reducible first | (first | assumption | ((fail_if_success fail_if_success refine oXn ?_); k_extra "one") | ((fail_if_success fail_if_success refine oXl ?_); k_extra "ol1") | ((fail_if_success fail_if_success refine oXe ?_); k_extra "oe1") | k_extra "oin") | fail)
  k_with "S_fit" => (first | omega | ((simp only [S_len, List.length_append, List.length_cons, List.length_nil, List.length_take, List.length_drop, dots, PySem.sizeLine_eq]); omega))
  k_with "call builtin:len" => (((with_reducible show wpAny _ _ (call (Value.builtin "len") [Value.str (S _) _]) _ _ _); refine r_len (by walk_at "S_fit") ?_))
  k_with "call builtin:str.startswith" => (((with_reducible show wpAny _ _ (call (Value.builtin "str.startswith") [Value.str (S _) _, Value.str (S _) _]) _ _ _); refine r_starts ?_))
  k_with "call builtin:str.endswith" => (((with_reducible show wpAny _ _ (call (Value.builtin "str.endswith") [Value.str (S _) _, Value.str (S _) _]) _ _ _); refine r_ends ?_))
  k_with "truthy str" => (((with_reducible show wpAny _ _ (truthy (Value.str (S _) _)) _ _ _); refine r_truthy (by walk_at "S_fit") ?_))
  k_with "exec For Name Name cons nil" => ((k_here; (rename Fr _ _ _ _ => Z6Xa); (with_unfolding_all refine' For_invVF Z6Xa ?Q6Xa ?Q6Xb ?_; (case Q6Xa => exact rfl); (case Q6Xb => exact rfl); k_whole)))
  k_with "pyIter ref" => (((with_reducible show wpAny _ _ (pyIter (Value.ref _)) (fun it s₂ => LoopAtV _ _ _ _ _ _ _ _ _ it s₂) _ _); k_listUnr))
  k_with "S_enter" => ((refine' code_defG (news := []) ?Q8Xa ?Q8Xb ?Q8Xc ?Q8Xd ?Q8Xe ?Q8Xf ?Q8Xg ?Q8Xh ?Q8Xi ?Q8Xj ?Q8Xk ?Q8Xl ?Q8Xm ?_ ?Q8Xn ?Q8Xo ?Q8Xp ?Q8Xq; (case Q8Xf => exact rfl); (case Q8Xg => exact rfl); (case Q8Xh => assumption); (case Q8Xa => k_asm); (case Q8Xb => k_asm); (case Q8Xc => k_asm); (case Q8Xd => exact News.nil); (case Q8Xe => k_asm); (case Q8Xi => k_is); (case Q8Xj => k_is); (case Q8Xk => ktr_room); (case Q8Xl => exact BindsTo.of_eq rfl); (case Q8Xq => decide); (case Q8Xm => exact locs rfl); (case Q8Xn => exact rfl); (case Q8Xo => exact rfl); (case Q8Xp => exact rfl); k_whole; intro Z8Xh Z8Xd Z8Xi Z8Xc Z8Xb Z8Xe Z8Xa Z8Xg Z8Xf Z8Xj; (try dsimp only [List.map_nil] at Z8Xj); (try dsimp only); (try k_lift Z8Xa); (try k_fold)))
  k_with "S_look" => (first | exact rfl | assumption | exact (if_pos rfl) | (refine (if_neg (by decide)).trans ?_; walk_at "S_look"))
  k_with "eval Name" => ((k_here; k_dflt (refine' nameX_L ?QaXa ?QaXb ?_ ?QaXc ?QaXd; (case QaXa => k_asm); (case QaXc => rfl); (case QaXd => rfl); (case QaXb => walk_at "S_look"); k_whole)))
  k_with "S_lit" => (first | (with_reducible exact lit_dots) | (with_reducible rfl))
  k_with "S_nn" => (first | omega | ((simp only [List.length_append, List.length_cons, List.length_nil, List.length_take, List.length_drop, dots] at *); omega))
  k_with "binaryOp Add str str" => (((with_reducible show wpAny _ _ (binaryOp _ (Value.str _ _) (Value.str _ _)) _ _ _); k_dflt (refine r_add (by walk_at "S_lit") (by walk_at "S_lit") (by walk_at "S_fit") ?_); intro _ _))
  k_with "subscriptTail Name Slice str ref" => (((with_reducible show wpAny _ _ (subscriptTail _ (Expr.Slice none (some _) none _) (Value.str (S _) _) _) _ _ _); (with_reducible rename Fr _ _ _ _ => ZeXa); (with_reducible rename News _ _ _ _ => ZeXb); (refine r_sliceTo (s := ⟨_, _, _, _, _⟩) ZeXa ZeXb (by walk_at "S_nn") (by walk_at "S_fit") ?_); intro _ _ _ _ _))
  k_with "subscriptTail Name Slice str ref" => (((with_reducible show wpAny _ _ (subscriptTail _ (Expr.Slice (some _) none none _) (Value.str (S _) _) _) _ _ _); (with_reducible rename Fr _ _ _ _ => ZfXa); (with_reducible rename News _ _ _ _ => ZfXb); (refine r_sliceFrom (s := ⟨_, _, _, _, _⟩) ZfXa ZfXb (by walk_at "S_nn") (by walk_at "S_fit") ?_); intro _ _ _ _ _))
  k_with "exec For Name Call cons nil" => ((k_here; (rename Fr _ _ _ _ => ZgXa); (with_unfolding_all refine' For_invVF ZgXa ?QgXa ?QgXb ?_; (case QgXa => exact rfl); (case QgXb => exact rfl); k_whole)))
  k_with "S_use" => ((refine' pcon_use ?QhXa ?QhXb ?QhXc ?QhXd ?QhXe ?QhXf ?QhXg ?QhXh ?_; (case QhXb => k_asm); (case QhXc => k_asm); (case QhXd => k_asm); (case QhXe => k_asm); (case QhXa => walk_at "S_con"); (case QhXf => first | exact rfl | assumption); (case QhXg => ktr_room); (case QhXh => ktr_units)))
  k_with "call ref" => ((k_here; k_dflt (walk_at "S_use"); intro ZiXf ZiXd ZiXe ZiXb; (have ZiXa := Fr.keeps (by k_asm) ZiXb); (have ZiXc := News.grown (by k_asm) ZiXb); walk_at "S_back" <;> ((try dsimp only); (try k_fold))))
  k_with "pyIter ref" => (k_extra "S_loop")
  k_with "S_bool" => ((intro ZkXa; (rcases bool_or ZkXa with ⟨R8, R7⟩ | ⟨R8, R7⟩) <;> subst R7))
  k_with "call builtin:list.append" => ((k_here; (with_reducible show wpAny _ _ (call (Value.builtin _) [Value.ref _, _]) _ _ _); k_dflt (refine' append_K ?QlXa ?QlXb ?QlXc ?_ ?QlXd; (case QlXa => k_asm); (case QlXb => k_asm); (case QlXc => k_upd); (case QlXd => exact size_ok (k := 100000) (by omega) (by decide)); k_whole); intro ZlXc ZlXa ZlXb; (try k_sweep)))
  k_with "m_k_room" => (ktr_room)
  k_with "m_k_units" => (ktr_units)
  k_with "S_enterM" => ((refine' code_defG ?QoXa ?QoXb ?QoXc ?QoXd ?QoXe ?QoXf ?QoXg ?QoXh ?QoXi ?QoXj ?QoXk ?QoXl ?QoXm ?_ ?QoXn ?QoXo ?QoXp ?QoXq; (case QoXf => exact rfl); (case QoXg => exact rfl); (case QoXh => assumption); (case QoXa => k_asm); (case QoXb => k_asm); (case QoXc => k_asm); (case QoXd => k_asm); (case QoXe => k_asm); (case QoXi => k_is); (case QoXj => k_is); (case QoXk => ktr_room); (case QoXl => exact BindsTo.of_eq rfl); (case QoXq => decide); (case QoXm => exact locs rfl); (case QoXn => exact rfl); (case QoXo => exact rfl); (case QoXp => exact rfl); k_whole; intro ZoXh ZoXd ZoXi ZoXc ZoXb ZoXe ZoXa ZoXg ZoXf ZoXj; (try dsimp only [List.map_nil, List.map_cons] at ZoXj); (try dsimp only); (try k_lift ZoXa); (try k_fold)))
  k_with "callWith" => (((with_reducible show wpAny _ _ (callWith _ (Prod.fst _) (Prod.snd _) _ _) _ _ _); dsimp only))
  k_with "S_int" => (first | omega | decide | ((simp only [List.length_cons, List.length_nil, decide_eq_true_eq, decide_eq_false_iff_not, beq_iff_eq, beq_eq_false_iff_ne, ne_eq, Int.not_lt, Int.not_le] at *); omega))
  k_with "binaryOp FloorDiv int int" => (((with_reducible show wpAny _ _ (binaryOp _ (Value.int _ _) (Value.int _ _)) _ _ _); k_dflt (refine r_fdiv (by walk_at "S_int") (by walk_at "S_int") ?_); intro _ _))
  k_with "binaryOp Mod int int" => (((with_reducible show wpAny _ _ (binaryOp _ (Value.int _ _) (Value.int _ _)) _ _ _); k_dflt (refine r_fmod (by walk_at "S_int") ?_); intro _ _))
  k_with "S_item" => (((with_reducible show wpAny _ _ (subscriptTail _ _ (Value.str (S _) _) (Value.int _ _)) _ _ _); k_dflt (refine r_item (by walk_at "S_int") (by walk_at "S_int") (by walk_at "S_fit") ?_); intro _ _))
  k_with "subscriptTail Name BinOp str int" => (walk_at "S_item")
  k_with "subscriptTail Name Constant str int" => (walk_at "S_item")
  k_with "subscriptTail Name Name str int" => (walk_at "S_item")
  k_with "S_lit" => (first | (with_reducible exact lit_dots) | (with_reducible exact lit_empty) | (with_reducible exact lit34) | (with_reducible exact lit9234) | (with_reducible exact lit92) | (with_reducible exact lit10) | (with_reducible exact lit38) | (with_reducible exact lit59) | (with_reducible rfl))
  k_with "call builtin:str.replace" => (((with_reducible show wpAny _ _ (call (Value.builtin _) [Value.str (S _) _, Value.str _ _, Value.str _ _]) _ _ _); k_dflt (refine r_replace (by walk_at "S_lit") (by walk_at "S_lit") (by decide) (Nat.succ_ne_zero _) (Nat.succ_ne_zero _) (Nat.ne_of_lt (Nat.lt_succ_self _)) (by decide) (by walk_at "S_nn") ?_); intro _ _))
  k_with "call builtin:str.join" => ((k_here; (with_reducible show wpAny _ _ (call (Value.builtin _) [Value.str _ _, Value.ref _]) _ _ _); k_dflt (refine r_join (by walk_at "S_lit") (by walk_at "S_isl") (by walk_at "S_strs") (by walk_at "S_sum") ?_); intro _ _))
  k_with "S_isl" => (first | assumption | exact ⟨LCg.lst _, News.get (by k_asm) (by k_mem), rfl, _, rfl⟩ | is_list)
  k_with "S_strs" => (first | exact StrsAre.nil | assumption | (exact CharsAre.strs (by assumption)))
  k_with "binaryOp Mult str int" => (((with_reducible show wpAny _ _ (binaryOp _ (Value.str (S _) _) (Value.int _ _)) _ _ _); k_dflt (refine r_mul (by walk_at "S_int") (by walk_at "S_int") (by walk_at "S_nn") ?_); intro _ _))
  k_with "S_enterC" => ((refine' code_defCG ?Q13Xa ?Q13Xb ?Q13Xc ?Q13Xd ?Q13Xe ?Q13Xf ?Q13Xg ?Q13Xh ?Q13Xi ?Q13Xj ?Q13Xk ?Q13Xl ?Q13Xm ?Q13Xn ?_ ?Q13Xo ?Q13Xp ?Q13Xq; (case Q13Xf => exact rfl); (case Q13Xg => exact rfl); (case Q13Xh => assumption); (case Q13Xa => k_asm); (case Q13Xb => k_asm); (case Q13Xc => k_asm); (case Q13Xd => k_asm); (case Q13Xe => k_asm); (case Q13Xi => k_is); (case Q13Xj => k_is); (case Q13Xk => ktr_room); (case Q13Xl => exact BindsTo.of_eq rfl); (case Q13Xm => rfl); (case Q13Xn => decide); (case Q13Xo => exact rfl); (case Q13Xp => exact rfl); (case Q13Xq => exact rfl); k_whole; intro Z13Xj Z13Xd Z13Xk Z13Xo Z13Xi Z13Xc Z13Xb Z13Xe Z13Xh Z13Xa Z13Xg Z13Xf Z13Xm Z13Xl Z13Xn; (try dsimp only [List.map_nil, List.map_cons] at Z13Xl); (try k_lt Z13Xm); k_cells Z13Xh; (try simp only [List.cons_append, List.nil_append] at Z13Xe); (try dsimp only); (try k_lift Z13Xa); (try k_fold)))
  k_with "S_lcs" => ((k_here; k_dflt (refine ListComp_S (_F₀ := by k_asm) (by rfl) (by decide) (by rfl) (by decide) (by rfl) ?_)))
  k_with "S_lit" => (first | (with_reducible exact lit_dots) | (with_reducible exact lit_empty) | (with_reducible exact lit34) | (with_reducible exact lit9234) | (with_reducible exact lit92) | (with_reducible exact lit10) | (with_reducible exact lit38) | (with_reducible exact lit59) | (with_reducible exact lit60) | (with_reducible exact lit62) | (with_reducible exact lit13) | (with_reducible exact lit9) | (with_reducible exact litamp) | (with_reducible exact litlt) | (with_reducible exact litgt) | (with_reducible exact litquot) | (with_reducible rfl))
  k_with "S_sum" => (assumption)
  k_with "eval ListComp" => ((k_here; (with_reducible show wpAny _ _ (eval (PySem.Expr.ListComp _ [⟨PySem.Expr.Tuple _ _ _, _, [], 0⟩] _ _) _) _ _ _); k_dflt (refine ListComp_E (_F₀ := by k_asm) (by rfl) (by decide) (by rfl) (by decide) (by rfl) (by rfl) (by decide) ?_)))
  k_with "eval ListComp" => ((k_here; (with_reducible show wpAny _ _ (eval (PySem.Expr.ListComp _ [⟨PySem.Expr.Name _ _, _, [], 0⟩] _ _) _) _ _ _); k_dflt (refine LCg.ListComp_U (F₀ := by k_asm) (by rfl) (by decide) (by rfl) (by decide) (by rfl) ?_)))
  k_with "call type:enumerate" => (refine stop9 ?_)
  k_with "exec Assign cons ListComp" => ((k_here; k_dflt (refine wpAny_Assign_Name ?_ (by rfl))))
  k_with "CompSrc" => (refine stop9 ?_)
  k_with "CompEnd" => (refine stop9 ?_)
  k_with "FinE" => (((unfold LCg.FinE); intro Z1dXa Z1dXd Z1dXf Z1dXb Z1dXc Z1dXe; (try simp only [List.nil_append, List.cons_append] at Z1dXc); (try dsimp only)))
  k_with "FinA" => (((unfold LCg.FinA); intro Z1eXa Z1eXd Z1eXf Z1eXb Z1eXc Z1eXe; (try simp only [List.nil_append, List.cons_append] at Z1eXc); (try dsimp only)))
  k_with "m_k_ne" => (first | (refine neN ?_; (try dsimp only); omega) | exact off1_ne (by assumption) (by k_mem) | exact Ne.symm (off1_ne (by assumption) (by k_mem)))
  k_with "eval ListComp" => ((k_here; (with_reducible show wpAny _ _ (eval (PySem.Expr.ListComp _ [⟨PySem.Expr.Name _ _, _, [_], 0⟩] _ _) _) _ _ _); k_dflt (refine LCt.ListComp_T (F₀ := by k_asm) (by rfl) (by decide) (by rfl) (by decide) (by rfl) ?_)))
  k_with "CompSrcT" => (refine stop9 ?_)
  k_with "S_laps" => ((intro Z1iXf; obtain ⟨Z1iXa, Z1iXj, Z1iXi, Z1iXh, Z1iXc, Z1iXd, Z1iXe⟩ := Z1iXf; subst Z1iXh; (obtain ⟨Z1iXb, Z1iXg⟩ := news_add (by k_asm) (by k_asm) (by k_asm) Z1iXc Z1iXd)))
  k_with "S_il" => (((rename News _ _ _ _ => Z1jXa); exact ⟨_, News.get Z1jXa (by k_mem), rfl, _, rfl⟩))
  trivial
theorem m_other {m n : PySem.Str → Option Value} {k j : PySem.Str} {x v : Option Value} (e : n = fun y => if y = k then x else m y) (hk : j ≠ k) (h : m j = v) : n j = v := by subst e; exact (if_neg hk).trans h
theorem m_this {m n : PySem.Str → Option Value} {k : PySem.Str} {x : Option Value} (e : n = fun y => if y = k then x else m y) : n k = x := by subst e; exact if_pos rfl
theorem news_pre {g : Heap} {L : Addr} {h : Heap} {x : Addr × Obj} {A LL : List (Addr × Obj)} (hx : x ∈ LL) (N : News g L h (A ++ LL)) : News g L h (x :: (A ++ LL)) := news_sub N fun q hq => by
  rcases List.mem_cons.mp hq with rfl | hq
  · exact List.mem_append_right _ hx
  · exact hq
theorem news_cut {g : Heap} {L : Addr} {h : Heap} {x a b c : Addr × Obj} {LL : List (Addr × Obj)} (N : News g L h (x :: a :: b :: c :: LL)) : News g L h (x :: LL) := news_sub N fun q hq => by
  rcases List.mem_cons.mp hq with rfl | hq
  · exact .head _
  · exact .tail _ (.tail _ (.tail _ (.tail _ hq)))
theorem law_body {w : World} {p loose mean mg mb} {dp un : Nat} {gd : Option (List Code)} {L fa : Addr} {ccd : Value} {outer : List Env} {A₀ : Around} {base g : Heap} {m : PySem.Str → Option Value} {s : Shared} {Q : Flow → Shared → Prop} {E : Value → Shared → Prop}
    (l : Addr) (vs : List Value) (ns : List Int) (hI : IntsAre vs ns) (hlen : ns.length ≤ 63) (hl : g.IsList l vs.toArray) (o1 o2 o3 o4 o5 o6 o7 : Obj) (d1 : o1.data = .cell (some (.ref l))) (d2 : o2.data = .cell none) (d3 : o3.data = .cell none) (d4 : o4.data = .cell none) (d5 : o5.data = .cell none) (d6 : o6.data = .cell none) (d7 : o7.data = .cell none) (hB : Below A₀ base outer g) (hF : Fr g L s.heap m) (hX : (hd.heap_1 w.params).In g) (hT : Top p loose mean mg mb g) (hr : dp + 30 < recursionLimit) (hu : un + 16 * 30 < cLine) (hC : CodeHd base 111 107) (hN : News g L s.heap [(L + 1 + 1 + 1 + 1 + 1 + 1 + 1, o7), (L + 1 + 1 + 1 + 1 + 1 + 1, o6), (L + 1 + 1 + 1 + 1 + 1, o5), (L + 1 + 1 + 1 + 1, o4), (L + 1 + 1 + 1, o3), (L + 1 + 1, o2), (L + 1, o1), (107, tabObj #[])]) (h7 : @LT.lt Nat _ 107 L)
    (next : Ends g L s Q) :
    wpAny (model Challenge.pw_sc0056_01 w) (lawA dp un gd L fa ccd outer) (execs lawBody (lawEnv L fa ccd)) Q E s := by
  refine main0 l vs ns hI hlen hl o1 o2 o3 o4 o5 o6 o7 d1 d2 d3 d4 d5 d6 d7 hB hF hX hT hr hu hC hN h7 fun h tk o2 Dh a0 a1 a2 t0 t1 t2 q0 q1 q2 d2 lh F N => ?_
  refine main1 o1 o2 o3 o4 o5 o6 o7 Dh a0 a1 a2 t0 t1 t2 q0 q1 q2 d2 lh hB F hX hT hr hu hC h7 N fun h tk m x y z ts rx ry rz hxy hsg F N => ?_
  refine main2 o1 o2 o3 o4 o5 o6 o7 Dh a0 a1 a2 t0 t1 t2 q0 q1 q2 d2 d3 d4 lh x y z ts hsg hB F hX hT hr hu hC h7 N fun h tk m o3 o4 G fw wr mk f0 f1 f2 tm u0 u1 u2 hwr d3 d4 lg hsg hwn F N => ?_
  refine main3 o1 o2 o3 o4 o5 o6 o7 Dh G a0 a1 a2 t0 t1 t2 q0 q1 q2 fw wr mk f0 f1 f2 tm u0 u1 u2 hwr d2 d3 d4 lh lg x y z ts rx ry rz hxy hsg hwn hB F hX hT hr hu hC h7 N fun h tk m Dp p0 p1 p2 v0 v1 v2 pc0 pc1 pc2 pn0 lp hsg hwn hpn F N => ?_
  refine main4 o1 o2 o3 o4 o5 o6 o7 Dh G a0 a1 a2 t0 t1 t2 q0 q1 q2 fw wr mk f0 f1 f2 tm u0 u1 u2 hwr d2 d3 d4 lh lg x y z ts rx ry rz hxy hsg hwn Dp p0 p1 p2 v0 v1 v2 pc0 pc1 pc2 pn0 lp hpn hB F hX hT hr hu hC h7 N fun h tk m w0 w1 w2 tp hsg hwn hpn hpg F N => ?_
  refine main5 o1 o2 o3 o4 o5 o6 o7 Dh G a0 a1 a2 t0 t1 t2 q0 q1 q2 fw wr mk f0 f1 f2 tm u0 u1 u2 hwr d2 d3 d4 d5 lh lg x y z ts rx ry rz hxy hsg hwn Dp p0 p1 p2 v0 v1 v2 pc0 pc1 pc2 pn0 lp hpn w0 w1 w2 tp hpg hB F hX hT hr hu hC h7 N fun h tk o5 r tl kp lf kl ps ok hlf lr d5 F N => ?_
  refine main6 o1 o2 o3 o4 o5 o6 o7 Dh G a0 a1 a2 t0 t1 t2 q0 q1 q2 fw wr mk f0 f1 f2 tm u0 u1 u2 hwr d2 d3 d4 lh lg x y z ts rx ry rz hxy hsg hwn Dp p0 p1 p2 v0 v1 v2 pc0 pc1 pc2 pn0 lp hpn w0 w1 w2 tp hpg r ok kp ps lr d5 tl lf kl hlf hB F hX hT hr hu hC h7 N fun h tk m Hd b0 b1 b2 ln tl lf kl hlf hln hof hsg hwn hpn hpg hhd F N => ?_
  refine main7 o1 o2 o3 o4 o5 o6 o7 Dh G a0 a1 a2 t0 t1 t2 q0 q1 q2 fw wr mk f0 f1 f2 tm u0 u1 u2 hwr d2 d3 d4 lh lg x y z ts rx ry rz hxy hsg hwn Dp p0 p1 p2 v0 v1 v2 pc0 pc1 pc2 pn0 lp hpn w0 w1 w2 tp hpg r ok kp ps lr d5 ln tl lf kl hlf hln Hd b0 b1 b2 hhd hof hB F hX hT hr hu hC h7 N fun h tk m tr tl lf kl hof hsg hwn hpn hpg hhd hrs F N => ?_
  refine main8 o1 o2 o3 o4 o5 o6 o7 Dh G a0 a1 a2 t0 t1 t2 q0 q1 q2 fw wr mk f0 f1 f2 tm u0 u1 u2 hwr d2 d3 d4 d6 lh lg x y z ts rx ry rz hxy hsg hwn Dp p0 p1 p2 v0 v1 v2 pc0 pc1 pc2 pn0 lp hpn w0 w1 w2 tp hpg r ok kp ps lr d5 tl lf kl Hd b0 b1 b2 hhd tr hrs hof hB F hX hT hr hu hC h7 N fun h tk tt o6 d6 hof F N => ?_
  have hr8 := grown_r8 (h := a2) (pc_r8 rx ry rz pc0) (pc_r8 rx ry rz pc1) (pc_r8 rx ry rz pc2)
  refine main9 o1 o2 o3 o4 o5 o6 o7 Dh G a0 a1 a2 t0 t1 t2 q0 q1 q2 fw wr mk f0 f1 f2 tm u0 u1 u2 hwr d2 d3 d4 (grownL p0 p1 p2 a2) (grown_le p0 p1 p2 a2) (grown_ne pn0) tt d7 d6 lh lg x y z ts rx ry rz hxy hsg hwn Dp p0 p1 p2 v0 v1 v2 pc0 pc1 pc2 pn0 lp hpn w0 w1 w2 tp hpg r ok kp ps lr d5 tl lf kl Hd b0 b1 b2 hhd tr hrs hof hB F hX hT hr hu hC h7 N fun h tk Dl pl o7 hpl2 d7 hofl hof F N => ?_
  refine main10 o6 o7 (grownL p0 p1 p2 a2) (grown_le p0 p1 p2 a2) (grown_ne pn0) tt (r8_free hr8) Dl pl hpl2 d7 d6 _ hB F hX hT hr hu hC (news_pre (A := [_, _]) (by k_mem) (news_pre (A := [_]) (by k_mem) (news_pre (A := []) (by k_mem) N))) fun h tk m9 Dr em F N => ?_
  replace hsg := m_other em (by decide) hsg
  replace hwn := m_other em (by decide) hwn
  replace hpn := m_other em (by decide) hpn
  replace hpg := m_other em (by decide) hpg
  replace hhd := m_other em (by decide) hhd
  replace hrs := m_other em (by decide) hrs
  have hrm := m_this em
  replace N := news_cut N
  refine main11 o6 o7 (grownL p0 p1 p2 a2) (grown_le p0 p1 p2 a2) (grown_ne pn0) tt (r8_free hr8) Dl pl hpl2 d7 d6 _ hB F hX hT hr hu hC (news_pre (A := [_, _]) (by k_mem) (news_pre (A := [_]) (by k_mem) (news_pre (A := []) (by k_mem) N))) fun h tk m8 Da en F N => ?_
  replace hsg := m_other en (by decide) hsg
  replace hwn := m_other en (by decide) hwn
  replace hpn := m_other en (by decide) hpn
  replace hpg := m_other en (by decide) hpg
  replace hhd := m_other en (by decide) hhd
  replace hrs := m_other en (by decide) hrs
  replace hrm := m_other en (by decide) hrm
  have hah := m_this en
  replace N := news_cut N
  refine main12 o1 o2 o3 o4 o5 o6 o7 Dh G a0 a1 a2 t0 t1 t2 q0 q1 q2 fw wr mk f0 f1 f2 tm u0 u1 u2 hwr d2 d3 d4 (grownL p0 p1 p2 a2) (grown_le p0 p1 p2 a2) (grown_ne pn0) tt d6 Dl pl hpl2 d7 lh lg x y z ts rx ry rz hxy hsg hwn Dp p0 p1 p2 v0 v1 v2 pc0 pc1 pc2 pn0 lp hpn w0 w1 w2 tp hpg r ok kp ps lr d5 tl lf kl Hd b0 b1 b2 hhd tr hrs Dr hrm Da hah hB F hX hT hr hu hC h7 N fun h tk F N => ?_
  refine main13 o3 o4 o6 o7 G fw wr mk f0 f1 f2 tm u0 u1 u2 hwr d3 d4 (grownL p0 p1 p2 a2) (grown_le p0 p1 p2 a2) (grown_ne pn0) tt hr8 (r8_free hr8) Dl pl hpl2 d7 d6 _ hwn Dr Da hrm hah hB F hX hT hr hu hC (news_pre (A := [_, _, _, _, _, _, _]) (by k_mem) (news_pre (A := [_, _, _, _, _, _]) (by k_mem) (news_pre (A := [_, _, _, _, _]) (by k_mem) (news_pre (A := [_, _, _, _]) (by k_mem) (news_pre (A := [_, _, _]) (by k_mem) (news_pre (A := [_, _]) (by k_mem) (news_pre (A := [_]) (by k_mem) (news_pre (A := []) (by k_mem) N)))))))) fun h tk F N => ?_
  replace N := news_tail (news_tail (news_tail (news_tail (news_tail (news_tail (news_tail (news_tail (N))))))))
  refine main14 o3 o4 o6 o7 G fw wr mk f0 f1 f2 tm u0 u1 u2 hwr d3 d4 (grownL p0 p1 p2 a2) (grown_le p0 p1 p2 a2) (grown_ne pn0) tt hr8 (r8_free hr8) Dl pl hpl2 d7 d6 _ hwn hB F hX hT hr hu hC (news_pre (A := [_, _, _, _, _]) (by k_mem) (news_pre (A := [_, _, _, _]) (by k_mem) (news_pre (A := [_, _, _]) (by k_mem) (news_pre (A := [_, _]) (by k_mem) (news_pre (A := [_]) (by k_mem) (news_pre (A := []) (by k_mem) N)))))) fun h tk F N => ?_
  replace N := news_tail (news_tail (news_tail (news_tail (news_tail (news_tail (N))))))
  exact main15 o1 o2 o3 o4 o5 o6 o7 Dh G a0 a1 a2 t0 t1 t2 q0 q1 q2 fw wr mk f0 f1 f2 tm u0 u1 u2 hwr d2 d3 d4 (grownL p0 p1 p2 a2) (grown_le p0 p1 p2 a2) (grown_ne pn0) tt d6 (r8_free hr8) Dl pl hpl2 d7 lh lg x y z ts rx ry rz hxy hsg hwn Dp p0 p1 p2 v0 v1 v2 pc0 pc1 pc2 pn0 lp hpn w0 w1 w2 tp hpg r ok kp ps lr d5 tl lf kl Hd b0 b1 b2 hhd tr hrs Dr hrm Da hah hofl hB F hX hT hr hu hC h7 N fun h m tk ps F N => next _ _ _ _ F N
end
section
local macro_rules | `(tactic| walk_at "zz0") => `(tactic| fail)
local macro_rules | `(tactic| walk_at "zz1") => `(tactic| fail)
local macro_rules | `(tactic| walk_at "zz2") => `(tactic| fail)
theorem foo : PySem.Challenge.rw_sc0056_01.Holds := by
  refine hd1 (by rfl) (by rfl) (by rfl) ?_
  k_go0
  rename CodeHd _ _ _ => hC1
  rename Fr _ _ _ (bindL _ _ _) => hF1
  rename News _ _ _ _ => hN1
  rename Top topProg _ _ _ _ _ => hT1
  rename Below _ _ _ _ => hB1
  rename Frag.In _ _ => hX1
  rename IntsAre _ _ => hI1
  rename 107 < _ => h71
  rename ¬ ((63 : Nat) : Int) < _ => hc1
  rename Heap.IsList (ghostOf _ _) _ _ => hl1
  rename CellsAre _ _ _ => hca
  rename_i q1 q2 q3 q4 q5 q6 q7 q8
  refine law_body (dp := callerA.depth + 1) (un := callerA.units + 3) (gd := callerA.guards) (outer := []) _ _ _ hI1 (by omega) hl1 _ _ _ _ _ _ _ ?d1 ?d2 ?d3 ?d4 ?d5 ?d6 ?d7 hB1 hF1 hX1 hT1 ?hr ?hu hC1 hN1 h71 fun h' m' tk' ps F N => ?_
  case d1 => exact q8
  case d2 => exact q7
  case d3 => exact q6
  case d4 => exact q5
  case d5 => exact q4
  case d6 => exact q3
  case d7 => exact q2
  case hr => decide
  case hu => decide
  clear hN1 hF1
  (try clear sfl)
  k_steps
end
end
end
end
end Mine
theorem PySem.Challenge.cw_sc0056_01_holds : PySem.Challenge.rw_sc0056_01.Holds := by
  exact Mine.foo
