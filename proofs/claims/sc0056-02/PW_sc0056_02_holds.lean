import PyProof.Rows.All
import Wide.All
import OpenK.AllK
import Wide.FinOn
import PyProof.EnumIter
import PyProof.Rows.StrWeight2
import PyProof.StrBlock2
import PyProof.Draws
import PyProof.WalksEnum
import PyProof.CollectIter
import PyProof.JoinWalk
import PyProof.Rows.SetFrom
import PyProof.TupleKey
import PyProof.Rows.StrRules
import PyProof.MinMaxWalk
import PyProof.Rows.SortStr
import PyProof.FactsAll.set_1
import PyProof.FactsBase
import PyProof.TableTree
import PyProof.FactsTree
import PyProof.PlainAttrs
import PyProof.CollectStr
import PyProof.Rows.LoopPair
import PyProof.WalksPairs
import PySem.Challenge.RW_sc0056_02
set_option Elab.async false
set_option linter.all false
set_option maxRecDepth 100000
set_option maxHeartbeats 0
namespace Mine
section
open PySem PySem.W PyProof.Rows
set_option linter.unusedVariables false in
theorem hdc {p p2 q : Prop} (hl : p) (hc : p2) (f : q) : q := by
  clear hl hc
  exact f
theorem said1 : PySem.Challenge.rw_sc0056_02.wellSaid = true := by kernel_rfl
theorem hd (hF : ∀ p : Prop, p) : PySem.Challenge.rw_sc0056_02.Holds := by
  refine holds_law said1 fun said => ?_
  apply hdc
  · apply hF
  · apply hF
  k_head
  (case hw => w_witness2)
noncomputable abbrev as1 : List Addr := [2, 3, 15, 17, 18, 20, 21, 29, 31, 32, 34, 35, 36, 38, 39, 41, 42, 43, 45, 46, 48, 49, 50, 52, 53, 55, 56, 57, 58, 59, 60, 61, 64, 66, 67, 69, 70, 71, 73, 74, 76, 77, 78, 80, 81, 83, 84, 85, 87, 88, 90, 91, 92, 94, 95, 97, 98, 99, 101, 102, 104, 105, 106, 109, 110, 111, 114, 115, 116, 119, 120, 121, 123, 124, 126, 127, 128, 130, 131, 133, 134, 135, 138, 139, 140, 143, 144, 145, 148, 149, 150, 153, 154]
theorem keys1 (P : Params) : as1 = (hd.heap_1 P).map (·.1) := by kernel_rfl
noncomputable abbrev H1 : Hook := kmHook hd.heap_1 as1 keys1 [107]
theorem left1 : LeftO (OpenRow.toRowW (OpenLaw.row PySem.Challenge.rw_sc0056_02)).prog hd.view_1 [] (fun s => xlAt hd.view_1 [] s && recOk (RowW.records (OpenRow.toRowW (OpenLaw.row PySem.Challenge.rw_sc0056_02))) s) (Hook.obs H1) (Hook.val H1) 1742 := by
  intro w
  kernel_rfl
theorem hd1 {d : DefRec} {kwd : List (Str × Expr)} (hdef : defOf hd.view_1 (OpenRow.toRowW (OpenLaw.row PySem.Challenge.rw_sc0056_02)).name = some (d, kwd))
    (hp : (OpenRow.toRowW (OpenLaw.row PySem.Challenge.rw_sc0056_02)).prog.theDef (OpenRow.toRowW (OpenLaw.row PySem.Challenge.rw_sc0056_02)).name = some (d.params, d.body, d.scope)) (hk : kwWritten? d.params.kwonlyargs d.params.kw_defaults = some kwd)
    (call : WalkO hd.view_1 [] (XL hd.view_1 []) (kmHook hd.heap_1 as1 keys1 [107]).says (OpenRow.toRowW (OpenLaw.row PySem.Challenge.rw_sc0056_02)) d kwd fun f vs => PySem.call f vs) : PySem.Challenge.rw_sc0056_02.Holds :=
  holds_law said1 fun said => holds_open left1 (Hook.of H1) (Hook.keeps H1) (fun s e => xl_of s (Bool.and_eq_true_iff.mp e).1) XL.keeps hdef hp hk (fun s e => recFacts_of (Bool.and_eq_true_iff.mp e).2) rfl said (by decide +kernel) ⟨rfl, rfl, rfl, rfl, rfl, by decide +kernel⟩ (by w_witness2) call
end
section
noncomputable def StopH : Prop := True
noncomputable def StopI : Prop := 0 = 0
end
section
theorem oS {a b k : Nat} (h : a ≤ b) : a ≤ b + k := Nat.le_trans h (Nat.le_add_right b k)
theorem oL {a b k : Nat} (h : a ≤ b) : a < b + (k + 1) := Nat.lt_of_le_of_lt h (Nat.lt_add_of_pos_right (Nat.succ_pos k))
theorem oH {a b c : Nat} (h : c < b) (i : a ≤ c) : a < b := Nat.lt_of_le_of_lt i h
theorem oA {a b c : Nat} (h : b ≤ c) : a + b ≤ a + c := Nat.add_le_add_left h a
theorem oA2 {a b c d : Nat} (h : b + c ≤ d) : a + b + c ≤ a + d := by rw [Nat.add_assoc]; exact Nat.add_le_add_left h a
theorem oA3 {a b c e d : Nat} (h : b + c + e ≤ d) : a + b + c + e ≤ a + d := by omega
theorem oB {a b : Nat} : a ≤ a + b := Nat.le_add_right a b
theorem oN {a n : Nat} {i : OfNat Nat n} (h : False) : a ≤ @OfNat.ofNat Nat n i := h.elim
theorem oM {a n : Nat} {i : OfNat Nat n} (h : False) : a < @OfNat.ofNat Nat n i := h.elim
theorem oXn {a b : Nat} (h : a ≠ b) : a ≠ b := h
theorem oXl {a b : Nat} (h : a < b) : a < b := h
theorem oXe {a b : Nat} (h : a ≤ b) : a ≤ b := h
theorem oE {a b : Nat} (h : a < b := by assumption) : a + 1 ≤ b := h
theorem oD {a b : Nat} (h : a < b := by assumption) : b - (a + 1) < b - a := by omega
theorem oT0 {x m N : Nat} (h : x ≤ m := by assumption) (h2 : m < N := by with_unfolding_all exact Nat.le_of_ble_eq_true rfl) : x < N := Nat.lt_of_le_of_lt h h2
theorem oT4 {x m N : Nat} (h : x ≤ m := by assumption) (h2 : m ≤ N := by with_unfolding_all exact Nat.le_of_ble_eq_true rfl) : x ≤ N := Nat.le_trans h h2
theorem oT5 {x m N : Nat} (h : x < m := by assumption) (h2 : m ≤ N := by with_unfolding_all exact Nat.le_of_ble_eq_true rfl) : x < N := Nat.lt_of_lt_of_le h h2
theorem oT1 {c x m N : Nat} (h : x ≤ m := by assumption) (h2 : c + m ≤ N := by with_unfolding_all exact Nat.le_of_ble_eq_true rfl) : c + x ≤ N := by omega
theorem oT2 {c x d m N : Nat} (h : x ≤ m := by assumption) (h2 : c + m + d ≤ N := by with_unfolding_all exact Nat.le_of_ble_eq_true rfl) : c + x + d ≤ N := by omega
theorem oT3 {x d m N : Nat} (h : x ≤ m := by assumption) (h2 : m + d ≤ N := by with_unfolding_all exact Nat.le_of_ble_eq_true rfl) : x + d ≤ N := by omega
theorem oP {x a M N : Nat} (h : x + a ≤ M := by assumption) (h2 : M ≤ N := by with_unfolding_all exact Nat.le_of_ble_eq_true rfl) : x ≤ N := by omega
theorem oP2 {x a b M N : Nat} (h : x + a + b ≤ M := by assumption) (h2 : M ≤ N := by with_unfolding_all exact Nat.le_of_ble_eq_true rfl) : x ≤ N := by omega
theorem oQ1 {a b N : Nat} (h : a + (b + 1) ≤ N := by assumption) : a + (0 + 1) + b ≤ N := by omega
theorem oQ2 {a b N : Nat} (h : a + (b + 1 + 1) ≤ N := by assumption) : a + (0 + 1) + b ≤ N := by omega
theorem oQ3 {b N : Nat} (h : b + 1 + 1 ≤ N := by assumption) : 0 + 1 + b ≤ N := by omega
theorem oQ4 {b N : Nat} (h : b + 1 ≤ N := by assumption) : 0 + 1 + b ≤ N := by omega
theorem oQ5 {a b M N : Nat} (h : a + (b + 1) ≤ M := by assumption) (h2 : M ≤ N := by with_unfolding_all exact Nat.le_of_ble_eq_true rfl) : a + (0 + 1) ≤ N := by omega
theorem oQ6 {a b N : Nat} (h : a + (b + 1) ≤ N := by assumption) : a + b ≤ N := by omega
theorem oI1 {a b X : Int} (h : a + (b + 1) = X := by assumption) : a + 1 + b = X := by omega
theorem oI2 {x : Nat} (h : 1 ≤ x) : (0 : Int) < ((x : Nat) : Int) := by omega
theorem oI3 {x : Nat} : (0 : Int) ≤ ((x : Nat) : Int) := Int.natCast_nonneg x
theorem oa1 {p q : Prop} (h : p ∧ q := by assumption) : p := h.1
theorem ob1 {p q : Prop} (h : p ∧ q := by assumption) : q := h.2
theorem oa2 {a p q : Prop} (h : a ∧ p ∧ q := by assumption) : p := h.2.1
theorem ob2 {a p q : Prop} (h : a ∧ p ∧ q := by assumption) : q := h.2.2
theorem oa3 {a b p q : Prop} (h : a ∧ b ∧ p ∧ q := by assumption) : p := h.2.2.1
theorem ob3 {a b p q : Prop} (h : a ∧ b ∧ p ∧ q := by assumption) : q := h.2.2.2
theorem oa4 {a b c p q : Prop} (h : a ∧ b ∧ c ∧ p ∧ q := by assumption) : p := h.2.2.2.1
theorem ob4 {a b c p q : Prop} (h : a ∧ b ∧ c ∧ p ∧ q := by assumption) : q := h.2.2.2.2
theorem oa5 {a b c d p q : Prop} (h : a ∧ b ∧ c ∧ d ∧ p ∧ q := by assumption) : p := h.2.2.2.2.1
theorem ob5 {a b c d p q : Prop} (h : a ∧ b ∧ c ∧ d ∧ p ∧ q := by assumption) : q := h.2.2.2.2.2
theorem oa6 {a b c d e p q : Prop} (h : a ∧ b ∧ c ∧ d ∧ e ∧ p ∧ q := by assumption) : p := h.2.2.2.2.2.1
theorem ob6 {a b c d e p q : Prop} (h : a ∧ b ∧ c ∧ d ∧ e ∧ p ∧ q := by assumption) : q := h.2.2.2.2.2.2
theorem oa7 {a b c d e f p q : Prop} (h : a ∧ b ∧ c ∧ d ∧ e ∧ f ∧ p ∧ q := by assumption) : p := h.2.2.2.2.2.2.1
theorem ob7 {a b c d e f p q : Prop} (h : a ∧ b ∧ c ∧ d ∧ e ∧ f ∧ p ∧ q := by assumption) : q := h.2.2.2.2.2.2.2
end
section
local macro_rules | `(tactic| omega) => `(tactic| k_extra "om")
example : True := by
  k_with_none
  k_with "olt" => (first | assumption | ((fail_if_success refine oM ?_); refine oL ?_; k_extra "ole") | k_extra "olh")
  k_with "olh" => (refine oH (by assumption) (by k_extra "ole"))
  k_with "ole" => (first | exact Nat.le_refl _ | assumption | exact oB | ((first | refine oA ?_ | refine oA2 ?_ | refine oA3 ?_); k_extra "ocl") | (refine oS ?_; k_extra "ole") | (refine Nat.le_of_lt ?_; (first | assumption | k_extra "olh")) | exact oE)
  k_with "olt2" => (first | k_extra "oas" | ((fail_if_success refine oM ?_); refine oL ?_; k_extra "ole2") | k_extra "olh2")
  k_with "olh2" => (refine oH (by k_extra "oas") (by k_extra "ole2"))
  k_with "ole2" => (first | exact Nat.le_refl _ | k_extra "oas" | exact oB | ((first | refine oA ?_ | refine oA2 ?_ | refine oA3 ?_); k_extra "ocl") | (refine oS ?_; k_extra "ole2") | (refine Nat.le_of_lt ?_; (first | k_extra "oas" | k_extra "olh2")) | exact oE)
  k_with "opu" => (first | exact oB | exact Nat.le_refl _ | (refine oS ?_; k_extra "opu"))
  k_with "olt0" => (refine oL ?_; k_extra "opu")
  k_with "one" => (first | (refine Nat.ne_of_gt ?_; (fail_if_success refine oM ?_); k_extra "olt0") | (refine Nat.ne_of_lt ?_; (fail_if_success refine oM ?_); k_extra "olt0") | exact Ne.symm (by assumption) | (refine Nat.ne_of_gt ?_; (fail_if_success refine oM ?_); k_extra "oas") | (refine Nat.ne_of_lt ?_; (fail_if_success refine oM ?_); k_extra "oas") | (refine Nat.ne_of_gt ?_; (fail_if_success refine oM ?_); k_extra "odd") | (refine Nat.ne_of_lt ?_; (fail_if_success refine oM ?_); k_extra "odd") | (refine Nat.ne_of_gt ?_; (fail_if_success refine oM ?_); k_extra "olt") | (refine Nat.ne_of_lt ?_; (fail_if_success refine oM ?_); k_extra "olt") | (refine Nat.ne_of_gt ?_; (fail_if_success refine oM ?_); k_extra "olt2") | (refine Nat.ne_of_lt ?_; (fail_if_success refine oM ?_); k_extra "olt2") | decide)
  k_with "ol1" => (first | ((fail_if_success refine oM ?_); first | k_extra "oas" | k_extra "olt0" | k_extra "odd" | k_extra "olt" | k_extra "olt2") | k_extra "ocl" | exact oT0 | exact oT5)
  k_with "oe1" => (first | ((fail_if_success refine oN ?_); first | k_extra "oas" | k_extra "opu" | k_extra "ole" | k_extra "ole2" | exact oE (by k_extra "oas")) | k_extra "ocl" | k_extra "olit" | k_extra "oas")
  k_with "olit" => (first | exact oT4 | exact oP | exact oP2 | exact oT1 | exact oT2 | exact oT3 | exact oQ5 | exact oQ1 | exact oQ2 | exact oQ3 | exact oQ4 | exact oQ6 | exact oD)
  k_with "ocl" => (with_unfolding_all exact Nat.le_of_ble_eq_true rfl)
  k_with "oas" => (first | assumption | exact oa1 | exact ob1 | exact oa2 | exact ob2 | exact oa3 | exact ob3 | exact oa4 | exact ob4 | exact oa5 | exact ob5 | exact oa6 | exact ob6 | exact oa7 | exact ob7)
  k_with "odd" => (first | exact oa1 ob7 | exact oa2 ob7 | exact oa3 ob7 | exact oa4 ob7 | exact oa5 ob7 | exact oa6 ob7 | exact oa7 ob7 | exact oa1 (ob7 ob7) | exact oa2 (ob7 ob7) | exact oa3 (ob7 ob7) | exact oa4 (ob7 ob7) | exact oa5 (ob7 ob7) | exact oa6 (ob7 ob7) | exact oa7 (ob7 ob7) | exact ob1 ob7 | exact ob2 ob7 | exact ob3 ob7 | exact ob4 ob7 | exact ob5 ob7 | exact ob6 ob7 | exact ob7 ob7)
  k_with "oin" => (first | decide | exact oI1 | exact oI3 | exact oI2 (by k_extra "oas"))
  k_with "om" => (with_reducible first | (first | assumption | ((fail_if_success fail_if_success refine oXn ?_); k_extra "one") | ((fail_if_success fail_if_success refine oXl ?_); k_extra "ol1") | ((fail_if_success fail_if_success refine oXe ?_); k_extra "oe1") | k_extra "oin") | fail)
  trivial
section
open PySem PySem.W PyProof.Rows
noncomputable def S (l : List Nat) : PySem.Str := ⟨l.toArray⟩
noncomputable def dots : List Nat := [46, 46, 46]
@[simp] theorem S_len (l : List Nat) : (S l).length = l.length := by simp [S, PySem.Str.length]
@[simp] theorem S_cps (l : List Nat) : (S l).cps.toList = l := by simp [S]
@[simp] theorem S_size (l : List Nat) : (S l).cps.size = l.length := by simp [S]
theorem S_app (a b : List Nat) : S a ++ S b = S (a ++ b) := by
  show PySem.Str.append _ _ = _
  simp [PySem.Str.append, S]
theorem S_inj {a b : List Nat} : S a = S b ↔ a = b := by simp [S]
theorem S_beq (a b : List Nat) : (S a == S b) = (a == b) := by
  rw [Bool.eq_iff_iff]; simp [S_inj]
theorem S_charAt {l : List Nat} {i : Int} {c : Nat} (h0 : 0 ≤ i) (h : l[i.toNat]? = some c) : Txt.charAt (S l) i = some c := by
  have hlt : i.toNat < l.length := (List.getElem?_eq_some_iff.mp h).1
  unfold Txt.charAt
  rw [StrLaws.seqIndex_nonneg h0 (by rw [S_len]; omega)]
  simpa [S] using h
open Builtin Builtin.Str in
theorem S_replace (x z : List Nat) (c : Nat) : Txt.replace (S x) (S [c]) (S z) = S (x.flatMap fun k => if k = c then z else [k]) := by
  have hj := StrLaws.join_split (S x) (S [c])
  have hf := StrLaws.split_free (S x) c
  have hr := StrLaws.replace_one (S x) (S z) c
  have e : (⟨#[c]⟩ : PySem.Str) = S [c] := rfl
  rw [e] at hr hf
  rw [hr]
  generalize Txt.split (S x) (S [c]) = ps at hj hf
  have free : ∀ l : List Nat, c ∉ l → l.flatMap (fun k => if k = c then z else [k]) = l := by
    intro l h
    induction l with
    | nil => rfl
    | cons a r ih =>
      have h1 : ¬ a = c := fun e => h (e ▸ List.mem_cons_self ..)
      rw [List.flatMap_cons, if_neg h1, ih fun m => h (List.mem_cons_of_mem _ m)]; rfl
  have key : ∀ ps : List PySem.Str, (∀ p ∈ ps, c ∉ p.cps.toList) → (PySem.Str.join (S z) ps).cps.toList = (PySem.Str.join (S [c]) ps).cps.toList.flatMap fun k => if k = c then z else [k] := by
    intro ps
    induction ps with
    | nil => intro _; rfl
    | cons p r ih =>
      intro h
      cases r with
      | nil => exact (free _ (h p (List.mem_cons_self ..))).symm
      | cons q r =>
        have ih' := ih fun a ha => h a (List.mem_cons_of_mem _ ha)
        show (p ++ S z ++ PySem.Str.join (S z) (q :: r)).cps.toList = (p ++ S [c] ++ PySem.Str.join (S [c]) (q :: r)).cps.toList.flatMap _
        simp only [PySem.Str.cps_append, Array.toList_append, List.flatMap_append]
        rw [ih', free _ (h p (List.mem_cons_self ..))]
        simp
  apply PySem.Str.ext'
  apply Array.ext'
  rw [key _ hf, hj]
  simp
noncomputable def glue : List (List Nat) → List Nat
  | [] => []
  | [p] => p
  | p :: q :: r => p ++ dots ++ glue (q :: r)
open Builtin Builtin.Str StrLaws in
theorem at_dots (w : List Nat) (k : Nat) : At (S w) (S dots) (S w).length k ↔ ((w.drop k).take 3 = dots) := by
  unfold At
  rw [subAt_eq, S_cps, S_cps, S_len, S_len, beq_iff_eq]
  constructor
  · exact fun h => h.2
  · intro h
    refine ⟨?_, h⟩
    have : ((w.drop k).take 3).length = 3 := by rw [h]; rfl
    simp at this
    show k + 3 ≤ _
    omega
theorem at_free {w p rest : List Nat} {a k : Nat} (hw : w.drop a = p ++ rest) (hp : 46 ∉ p) (h1 : a ≤ k) (h2 : k < a + p.length) : (w.drop k).take 3 ≠ dots := by
  intro h
  have e1 : w[k]? = some 46 := by
    have : ((w.drop k).take 3)[0]? = some 46 := by rw [h]; rfl
    rw [List.getElem?_take_of_lt (by omega), List.getElem?_drop] at this
    simpa using this
  have e2 : (w.drop a)[k - a]? = some 46 := by
    rw [List.getElem?_drop, show a + (k - a) = k by omega]; exact e1
  rw [hw, List.getElem?_append_left (by omega)] at e2
  exact hp (List.mem_of_getElem? e2)
open Builtin Builtin.Str StrLaws in
theorem parts_glue (w : List Nat) : ∀ (parts : List (List Nat)) (a f : Nat) (cuts : List Nat), parts ≠ [] → (∀ p ∈ parts, 46 ∉ p) → a ≤ w.length → w.drop a = glue parts →
    ChainG (S w) (S dots) (S w).length a cuts f → (∀ k, f ≤ k → ¬ At (S w) (S dots) (S w).length k) → partsFrom (S w) 3 a cuts = parts.map S
  | [], _, _, _, h, _, _, _, _, _ => absurd rfl h
  | [p], a, f, cuts, _, hp, ha, hw, hc, hn => by
    have hp' := hp p (List.mem_cons_self ..)
    have hw' : w.drop a = p ++ [] := by rw [List.append_nil]; exact hw
    have hl : p.length = w.length - a := by have := congrArg List.length hw; simp [glue] at this; omega
    cases cuts with
    | nil =>
      show [strSub (S w) a (S w).length] = [S p]
      congr 1
      apply PySem.Str.ext'; apply Array.ext'
      rw [strSub_toList, S_cps, S_cps, hw, S_len, ← hl]
      exact List.take_length
    | cons c r =>
      exfalso
      have h1 := (at_dots w c).mp hc.2.1
      have h2 : c + 3 ≤ w.length := by have := hc.2.1.1; rw [S_len] at this; simpa [dots] using this
      exact at_free hw' hp' hc.1 (by omega) h1
  | p :: q :: r, a, f, cuts, _, hp, ha, hw, hc, hn => by
    have hp' := hp p (List.mem_cons_self ..)
    have hw' : w.drop a = p ++ (dots ++ glue (q :: r)) := by rw [hw]; simp [glue]
    have hl : w.length - a = p.length + (3 + (glue (q :: r)).length) := by have := congrArg List.length hw'; simp [dots] at this; omega
    have hd : w.drop (a + p.length) = dots ++ glue (q :: r) := by
      rw [← List.drop_drop, hw', List.drop_left]
    have hat : At (S w) (S dots) (S w).length (a + p.length) := by
      rw [at_dots, hd]; rfl
    cases cuts with
    | nil =>
      exfalso
      have e : f = a := hc
      exact hn (a + p.length) (by omega) hat
    | cons c cs =>
      have hc1 : c ≤ a + p.length := by
        apply Nat.le_of_not_lt; intro h
        exact hc.2.2.1 (a + p.length) (by omega) h hat
      have hc2 : ¬ c < a + p.length := fun h => at_free hw' hp' hc.1 h ((at_dots w c).mp hc.2.1)
      have ec : c = a + p.length := by omega
      subst ec
      show strSub (S w) a (a + p.length) :: partsFrom (S w) 3 (a + p.length + 3) cs = S p :: (q :: r).map S
      congr 1
      · apply PySem.Str.ext'; apply Array.ext'
        rw [strSub_toList, S_cps, S_cps, hw', show a + p.length - a = p.length by omega]
        exact List.take_left' rfl
      · refine parts_glue w (q :: r) (a + p.length + 3) f cs (by simp) (fun x hx => hp x (List.mem_cons_of_mem _ hx)) (by omega) ?_ hc.2.2.2 hn
        rw [← List.drop_drop, hd]; rfl
open Builtin Builtin.Str StrLaws in
theorem S_split (parts : List (List Nat)) (h0 : parts ≠ []) (hp : ∀ p ∈ parts, 46 ∉ p) : Txt.split (S (glue parts)) (S dots) = parts.map S := by
  obtain ⟨f, h1, h2⟩ := occ_tight (S (glue parts)) (S dots) (by decide)
  have key := parts_glue (glue parts) parts 0 f _ h0 hp (Nat.zero_le _) rfl h1 h2
  have hk : Str.strKind (S dots) = 1 := by decide +kernel
  have hk2 : 1 ≤ Str.strKind (S (glue parts)) := by unfold Str.strKind; split <;> (try split) <;> omega
  have one : (occurrences (S (glue parts)) (S dots) 0 (S (glue parts)).length ((S (glue parts)).length + 1)).isEmpty = true → [S (glue parts)] = parts.map S := by
    intro he
    rw [List.isEmpty_iff] at he
    rw [he] at key
    rw [← key]
    show [_] = [strSub _ 0 _]
    congr 1
    apply PySem.Str.ext'; apply Array.ext'
    rw [strSub_toList, S_cps]
    simp
  unfold Txt.split
  split
  · rename_i h
    rw [hk] at h
    have hlt : (S (glue parts)).length < (S dots).length := by
      rcases Bool.or_eq_true_iff.mp h with h | h
      · exact of_decide_eq_true h
      · have := of_decide_eq_true h; omega
    refine one ?_
    rw [List.isEmpty_iff]
    cases ho : occurrences (S (glue parts)) (S dots) 0 (S (glue parts)).length ((S (glue parts)).length + 1) with
    | nil => rfl
    | cons c r =>
      rw [ho] at h1
      have := h1.2.1.1
      omega
  · split
    · rename_i h; exact one h
    · rw [partsBetween_eq]; exact key
open Builtin Builtin.Str StrLaws in
theorem S_contains (a b : List Nat) : Txt.contains (S (a ++ dots ++ b)) (S dots) = true := by
  unfold Txt.contains
  rw [found_iff]
  refine ⟨a.length, by simp [dots], ?_⟩
  rw [subAt_eq, S_cps, S_cps, S_len, List.append_assoc, List.drop_left]
  simp [dots]
theorem S_contains1 (x : List Nat) (c : Nat) : Txt.contains (S x) (S [c]) = decide (c ∈ x) := by
  have := StrLaws.found_one (S x) c
  rw [S_cps] at this
  exact this
end
section
open PySem PySem.W PyProof.Rows
section
open Builtin Builtin.Str
theorem gives_find4 (x y : PySem.Str) (i j : Int) (t u v r : Tok) : Gives (Builtin.«str.find» ⟨[.str x t, .str y u, .int i v, .int j r], []⟩) (.int (match occurrences x y (fromIndex x.length i) (min (fromIndex x.length j) x.length) 1 with | k :: _ => (k : Int) | [] => -1)) := by
  show Gives (match occurrences x y (fromIndex x.length i) (min (fromIndex x.length j) x.length) 1 with | k :: _ => retInt k | [] => (do rule "str.find.not-found"; retInt (-1))) _
  cases occurrences x y (fromIndex x.length i) (min (fromIndex x.length j) x.length) 1 with
  | nil => exact .rule (.of_eq rfl)
  | cons k _ => exact .of_eq rfl
theorem occ_empty (s : PySem.Str) {lo hi : Nat} (h : lo ≤ hi) : occurrences s (S []) lo hi 1 = [lo] := by
  have hs : ∀ i, subAt s (S []) i = true := fun i => by rw [StrLaws.subAt_eq]; simp
  rw [StrLaws.occ_eq]
  obtain ⟨n, rfl⟩ := Nat.exists_eq_add_of_le h
  rw [show lo + n + 1 - lo = n + 1 by omega, List.range'_succ, List.forIn_cons]
  have h1 : StrLaws.occBody s (S []) (lo + n) 1 lo (#[], lo) = pure (.yield (#[lo], lo)) := by
    unfold StrLaws.occBody
    have hs' := hs lo
    simp only [S, PySem.Str.length] at hs' ⊢
    simp [hs']
  rw [h1]
  show ((forIn (List.range' (lo + 1) n) (#[lo], lo) (StrLaws.occBody s (S []) (lo + n) 1)).run).fst.toList = [lo]
  have key : ∀ (l : List Nat) (f : Nat), ((forIn l (#[lo], f) (StrLaws.occBody s (S []) (lo + n) 1) : Id _).run).fst = #[lo] := by
    intro l
    induction l with
    | nil => intro f; rfl
    | cons a r ih =>
      intro f
      rw [List.forIn_cons]
      have : StrLaws.occBody s (S []) (lo + n) 1 a (#[lo], f) = pure (.yield (#[lo], f)) := by
        unfold StrLaws.occBody; simp
      rw [this]
      exact ih f
  rw [key]
end
section
variable {prog : Program} {w : World} {A : Around} {E : Value → Shared → Prop} {s : Shared} {h₀ : Heap} {L : Addr} {m : PySem.Str → Option Value} {news : List (Addr × Obj)} {x y : PySem.Str} {t u v r : Tok} {Q : Value → Shared → Prop}
theorem r_notin_dots {a b : List Nat} (hy : y = S dots) (h : Q (.bool false) s) : wpAny (model prog w) A (compareOp .NotIn (.str y u) (.str (S (a ++ dots ++ b)) t)) Q E s := by
  subst hy
  refine SB.notContains ?_
  rw [S_contains]
  exact h
theorem r_len {l : List Nat} (hl : l.length ≤ 1000000) (h : Q (.int (l.length : Nat) (s.toks + 1)) { s with toks := s.toks + 1 + 1 }) : wpAny (model prog w) A (call (.builtin "len") [.str (S l) t]) Q E s := by
  refine P.len_str (by rw [S_len]; omega) ?_
  rw [S_len]; exact h
theorem r_truthy {l : List Nat} {Q : Bool → Shared → Prop} (hl : l.length ≤ 1000000) (h : Q (decide (l ≠ [])) { s with toks := s.toks + 1 + 1 }) : wpAny (model prog w) A (truthy (.str (S l) t)) Q E s := by
  refine P.truthy_str (by rw [S_len]; omega) ?_
  have : (((S l).length : Int) != 0) = decide (l ≠ []) := by
    rw [S_len, Bool.eq_iff_iff]; simp
  rw [this]; exact h
theorem r_find_empty {a : List Nat} {i j : Int} (h0 : 0 ≤ i) (h1 : i ≤ j) (h2 : j ≤ a.length) (h : Q (.int i s.toks) { s with toks := s.toks + 1 }) :
    wpAny (model prog w) A (call (.builtin "str.find") [.str (S a) t, .str (S []) u, .int i v, .int j r]) Q E s := by
  refine call_gives F.slot_str_find (typeIs_str _ _ _) F.entry_str_find (F.args_str_find_4 _ _ _ _) (gives_find4 _ _ i j t u v r) ?_
  have e1 : fromIndex (S a).length i = i.toNat := by unfold fromIndex; rw [if_neg (by omega)]; omega
  have e2 : min (fromIndex (S a).length j) (S a).length = j.toNat := by unfold fromIndex; rw [if_neg (by omega), S_len]; omega
  rw [e1, e2, occ_empty _ (by omega)]
  show Q (.int ((i.toNat : Nat) : Int) _) _
  rw [show ((i.toNat : Nat) : Int) = i by omega]
  exact h
end
end
section
open PySem PySem.W PyProof.Rows
noncomputable abbrev Kept (h h' : Heap) : Prop := ∀ b o, h.get? b = some o → h'.get? b = some o
noncomputable abbrev PCon (n : Nat) (prog : Program) (w : World) (K : Frag) (p : Program) (loose : List PySem.Str) (mean : ExcName → Option Value) (mg mb : PySem.Str → Option Value) (f : Addr) (vs : List Value) (R : Heap → Heap → Value → Prop) : Prop :=
  ∀ (dp un : Nat) (gd : Option (List Code)) (cn : PySem.Str) (cs : Scope) (a : Addr) (ccd : Value) (cl : List (PySem.Str × Addr)) (outer : List Env) (A₀ : Around) (base h₀ : Heap) (L : Addr) (m : PySem.Str → Option Value) (s : Shared) (Q E : Value → Shared → Prop),
    Below A₀ base outer h₀ → Fr h₀ L s.heap m → K.In h₀ → Top p loose mean mg mb h₀ → cs.kind = .function → dp + n < recursionLimit → un + 16 * n < cLine →
    (∀ (v : Value) (h' : Heap) (tk' : Nat), Kept s.heap h' → R s.heap h' v → Q v { s with heap := h', toks := tk' }) →
    wpAny (model prog w) (ktrTop dp un gd cn cs L a ccd cl outer) (call (.ref f) vs) Q E s
theorem pc_kept {h g h' : Heap} {L' : Addr} {m' : PySem.Str → Option Value} (G : GSub h g []) (F : Fr g L' h' m') : Kept h h' := fun b o e => F.keep b o (G b o e (by simp))
theorem gsub_none {h g : Heap} {D : Addr} (G : GSub h g []) (e : g.get? D = none) : h.get? D = none := by
  cases q : h.get? D with
  | none => rfl
  | some o => rw [G D o q (by simp)] at e; cases e
theorem pcon_use {n : Nat} {prog : Program} {w : World} {K : Frag} {p : Program} {loose : List PySem.Str} {mean : ExcName → Option Value} {mg mb : PySem.Str → Option Value} {f : Addr} {vs : List Value} {R : Heap → Heap → Value → Prop}
    {dp un : Nat} {gd : Option (List Code)} {cn : PySem.Str} {cs : Scope} {a : Addr} {ccd : Value} {cl : List (PySem.Str × Addr)} {outer : List Env} {A₀ : Around} {base h₀ : Heap} {L : Addr} {m : PySem.Str → Option Value} {s : Shared} {Q E : Value → Shared → Prop}
    (C : PCon n prog w K p loose mean mg mb f vs R)
    (B : Below A₀ base outer h₀) (F : Fr h₀ L s.heap m) (X : K.In h₀) (T : Top p loose mean mg mb h₀) (hk : cs.kind = .function) (hd : dp + n < recursionLimit) (hu : un + 16 * n < cLine)
    (ret : ∀ (v : Value) (h' : Heap) (tk' : Nat), Kept s.heap h' → R s.heap h' v → Q v { s with heap := h', toks := tk' }) :
    wpAny (model prog w) (ktrTop dp un gd cn cs L a ccd cl outer) (call (.ref f) vs) Q E s := C _ _ _ _ _ _ _ _ _ _ _ _ _ _ _ _ _ B F X T hk hd hu ret
noncomputable def AllNe (d : Addr) : List (Addr × Obj) → Prop
  | [] => True
  | p :: r => @Ne Nat p.1 d ∧ AllNe d r
theorem news_add {h₀ h h' : Heap} {L D : Addr} {m : PySem.Str → Option Value} {news : List (Addr × Obj)} {o : Obj} (F : Fr h₀ L h m) (N : News h₀ L h news) (K : Kept h h') (hD : h'.get? D = some o) (hn : h.get? D = none) : News h₀ L h' ((D, o) :: news) ∧ AllNe D news := by
  refine ⟨fun p hp => ?_, ?_⟩
  · rcases List.mem_cons.mp hp with rfl | hp
    · refine ⟨hD, ?_, ?_⟩
      · intro e
        obtain ⟨oL, _, _, hL, _⟩ := F.ns
        have : h.get? L = none := by rw [← e]; exact hn
        rw [hL] at this; cases this
      · cases q : h₀.get? D with
        | none => rfl
        | some o' => have := F.keep D o' q; rw [hn] at this; cases this
    · exact ⟨K _ _ (N p hp).1, (N p hp).2⟩
  · have : ∀ l : List (Addr × Obj), (∀ p ∈ l, p ∈ news) → AllNe D l := by
      intro l
      induction l with
      | nil => intro _; trivial
      | cons p r ih =>
        intro hs
        refine ⟨fun e => ?_, ih fun q hq => hs q (List.mem_cons_of_mem _ hq)⟩
        have := (N p (hs p (List.mem_cons_self ..))).1
        have e' : p.1 = D := e
        rw [e', hn] at this; cases this
    exact this news fun _ h => h
end
section
open PySem PySem.W PyProof.Rows
noncomputable def rep (c : Nat) (z : List Nat) (x : List Nat) : List Nat := x.flatMap fun k => if k = c then z else [k]
theorem rep_free {c : Nat} {z x : List Nat} (h : c ∉ x) : rep c z x = x := by
  unfold rep
  induction x with
  | nil => rfl
  | cons a r ih =>
    have h1 : ¬ a = c := fun e => h (e ▸ List.mem_cons_self ..)
    rw [List.flatMap_cons, if_neg h1, ih fun m => h (List.mem_cons_of_mem _ m)]; rfl
theorem rep_len {c : Nat} {z x : List Nat} {N : Nat} (hz : z.length ≤ 6) (hx : x.length ≤ N) : (rep c z x).length ≤ 6 * N := by
  have : ∀ x : List Nat, (rep c z x).length ≤ 6 * x.length := by
    intro x
    unfold rep
    induction x with
    | nil => simp
    | cons a r ih =>
      rw [List.flatMap_cons, List.length_append, List.length_cons]
      split <;> (try simp only [List.length_cons, List.length_nil]) <;> omega
  have := this x
  omega
noncomputable abbrev escScope : Scope := { kind := .function, names := [(PySem.Str.ofString "text", .local), (PySem.Str.ofString "TypeError", .globalImplicit), (PySem.Str.ofString "AttributeError", .globalImplicit), (PySem.Str.ofString "_raise_serialization_error", .globalImplicit)], isGenerator := false, isCoroutine := false, more := [] }
section
variable {prog : Program} {w : World} {A : Around} {E : Value → Shared → Prop} {s : Shared} {g : Heap} {nm : PySem.Str} {L a : Addr} {cd : Value} {m : PySem.Str → Option Value} {x : List Nat} {t : Tok} {news : List (Addr × Obj)} {Q : Flow → Shared → Prop}
noncomputable abbrev Xt : PySem.Str := PySem.Str.ofString "text"
theorem r_escIf {c0 : Nat} {z0 : List Nat} {c z : PySem.Str} {k1 k2 k3 : Nat} {p1 p2 p3 p4 p5 p6 p7 p8 p9 p10 p11 : Pos} (hc : c = S [c0]) (hz : z = S z0) (hne : z0 ≠ [c0]) (hz6 : z0.length ≤ 6) {N : Nat} (hx : x.length ≤ N) (hN : N ≤ 1048576)
    (F : Fr g L s.heap m) (NN : News g L s.heap news) (hm : m Xt = some (.str (S x) t))
    (h : ∀ h' t' k, (rep c0 z0 x).length ≤ 6 * N → Fr g L h' (fun y => if y = Xt then some (.str (S (rep c0 z0 x)) t') else m y) → News g L h' news → Q .next { s with heap := h', toks := k })
    {pl : Sem Bool} (he : eval (.Call (.Attribute (.Name (PySem.Str.ofString "text") p5) (PySem.Str.ofString "replace") p6) [.Constant (.str c) k2 p7, .Constant (.str z) k3 p8] [] p9) (envOf nm escScope L a cd) = (do
      let ov ← eval (.Name (PySem.Str.ofString "text") p5) (envOf nm escScope L a cd)
      standAt p6.atName
      let (f, first) ← holding [ov] (getMethod ov (PySem.Str.ofString "replace") pl)
      callWith p9 f first (backTo p9 (starEach [.Constant (.str c) k2 p7, .Constant (.str z) k3 p8] (envOf nm escScope L a cd))) []) := by rfl) :
    wpAny (model prog w) A (exec (.If (.Compare (.Constant (.str c) k1 p1) [.In] [.Name (PySem.Str.ofString "text") p2] p3) [.Assign [.Name (PySem.Str.ofString "text") p4] (.Call (.Attribute (.Name (PySem.Str.ofString "text") p5) (PySem.Str.ofString "replace") p6) [.Constant (.str c) k2 p7, .Constant (.str z) k3 p8] [] p9) p10] [] p11) (envOf nm escScope L a cd)) Q E s := by
  subst hc hz
  have ldx : ∀ {s' : Shared} {pos : Pos} {Q' : Value → Shared → Prop}, s'.heap = s.heap → Q' (.str (S x) t) s' → wpAny (model prog w) A (eval (.Name (PySem.Str.ofString "text") pos) (envOf nm escScope L a cd)) Q' E s' := fun {s'} _ _ e q => ld (s := s') (by rw [e]; exact F) hm q
  refine wpAny_If (wpAny_isTrue_Compare1 (Calls.Constant_str (ldx rfl (SB.contains ?_))))
  rw [S_contains1]
  refine wpAny_truthy_bool ?_
  by_cases hin : c0 ∈ x
  · rw [decide_eq_true hin, if_pos rfl]
    refine wpAny_execs_cons (wpAny_Assign_Name (MethodCall_ (ldx rfl (GM.replace ?_)) he))
    refine callWith_method1 (Calls.spliced_cons (Calls.Constant_str (k := k2) (pos := p7) (Calls.spliced_cons (Calls.Constant_str (k := k3) (pos := p8) (Calls.spliced_nil ?_)))))
    refine SC.replaceW (by show s.toks + 1 ≠ 0; omega) (by show s.toks + 1 + 1 ≠ 0; omega) (by show s.toks + 1 ≠ s.toks + 1 + 1; omega) ?_ (by rw [S_len]; omega) (by rw [S_len]; omega) ?_
    · rw [S_beq]
      cases hq : ([c0] == z0) with
      | false => rfl
      | true => exact absurd (eq_of_beq hq).symm hne
    · intro t' k
      rw [S_replace]
      refine stN (s := { s with toks := k }) F NN fun h' F' N' => ?_
      dsimp only
      exact wpAny_execs_nil (h h' t' _ (rep_len hz6 hx) F' N')
  · rw [decide_eq_false hin, if_neg Bool.false_ne_true]
    refine wpAny_execs_nil ?_
    have e : rep c0 z0 x = x := rep_free hin
    have := h s.heap t (s.toks + 1) (rep_len hz6 hx) (by
      rw [e]
      have e2 : (fun y => if y = Xt then some (Value.str (S x) t) else m y) = m := by
        funext y
        by_cases hy : y = Xt
        · rw [if_pos hy, hy, hm]
        · rw [if_neg hy]
      rw [e2]; exact F) NN
    exact this
end
noncomputable def eAmp : List Nat := [38, 97, 109, 112, 59]
noncomputable def eLt : List Nat := [38, 108, 116, 59]
noncomputable def eGt : List Nat := [38, 103, 116, 59]
noncomputable def eQuot : List Nat := [38, 113, 117, 111, 116, 59]
noncomputable def e13 : List Nat := [38, 35, 49, 51, 59]
noncomputable def e10 : List Nat := [38, 35, 49, 48, 59]
noncomputable def e09 : List Nat := [38, 35, 48, 57, 59]
noncomputable def exD : List Nat := [38, 35, 120, 68, 59]
noncomputable def exA : List Nat := [38, 35, 120, 65, 59]
noncomputable def ex9 : List Nat := [38, 35, 120, 57, 59]
noncomputable def wr0 (x : List Nat) : List Nat := rep 62 eGt (rep 60 eLt (rep 38 eAmp x))
noncomputable def wr1 (x : List Nat) : List Nat := rep 9 e09 (rep 10 e10 (rep 13 e13 (rep 34 eQuot (rep 62 eGt (rep 60 eLt (rep 38 eAmp x))))))
noncomputable def wr2 (x : List Nat) : List Nat := rep 34 eQuot (rep 62 eGt (rep 38 eAmp x))
noncomputable def wr3 (x : List Nat) : List Nat := rep 13 exD (rep 62 eGt (rep 60 eLt (rep 38 eAmp x)))
noncomputable def wr4 (x : List Nat) : List Nat := rep 13 exD (rep 10 exA (rep 9 ex9 (rep 34 eQuot (rep 60 eLt (rep 38 eAmp x)))))
end
section
open PySem PySem.W PyProof.Rows PySem.Calls
section
variable {prog : Program} {w : World} {A : Around} {E : Value → Shared → Prop} {s : Shared} {env : Env} {h₀ : Heap} {x : PySem.Str} {body : List Stmt} {Q : Flow → Shared → Prop}
end
section
variable {prog : Program} {w : World} {A : Around} {E : Value → Shared → Prop} {s : Shared} {h₀ : Heap} {L : Addr} {m : PySem.Str → Option Value} {news : List (Addr × Obj)} {x y : PySem.Str} {t u v r : Tok} {Q : Value → Shared → Prop} {value slice : Expr}
theorem r_add {a b : List Nat} (hx : x = S a) (hy : y = S b) (hl : a.length + b.length ≤ 1000000) (h : ∀ t' k, Q (.str (S (a ++ b)) t') { s with toks := k }) : wpAny (model prog w) A (binaryOp .Add (.str x t) (.str y u)) Q E s := by
  subst hx hy
  exact SB.add (fun t' k => by rw [S_app]; exact h t' k) (by rw [S_len, S_len, sizeLine_eq]; omega)
end
theorem small_le {a b : Int} (h0 : -(2 ^ 62) < a) (h1 : b < 2 ^ 62) (h2 : a < 2 ^ 62) (h3 : -(2 ^ 62) < b) : Builtin.Range.small a b 1 = true := by
  have fit : ∀ x : Int, -(2 ^ 63) ≤ x → x < 2 ^ 63 → Builtin.Range.rangeFitsLong x = true := by
    intro x hx hy
    unfold Builtin.Range.rangeFitsLong
    simp only [Bool.and_eq_true, decide_eq_true_eq]
    omega
  unfold Builtin.Range.small
  rw [rangeSize_nat, fit a (by omega) (by omega), fit b (by omega) (by omega), fit 1 (by decide) (by decide), fit _ (by omega) (by omega), if_pos (by decide), fit _ (by omega) (by omega)]
  simp
noncomputable def Stop9 (P : Prop) : Prop := P
theorem stop9 {P : Prop} (h : Stop9 P) : P := h
theorem Stop9.go {P : Prop} (h : P) : Stop9 P := h
theorem lit_dots : PySem.Str.ofString "..." = S dots := by decide +kernel
theorem bool_or {v : Value} {b : Bool} (h : v = .bool b) : (b = true ∧ v = .bool true) ∨ (b = false ∧ v = .bool false) := by
  cases b with
  | true => exact .inl ⟨rfl, h⟩
  | false => exact .inr ⟨rfl, h⟩
theorem ints_snoc {vs : List Value} {l : List Int} {n : Int} {t : Tok} (hI : IntsAre vs l) : IntsAre (vs ++ [.int n t]) (l ++ [n]) := by
  induction hI with
  | nil => exact .cons _ _ .nil
  | cons a b _ ih => exact .cons _ _ ih
theorem size_ok {vs : List Value} {k : Nat} (h : vs.length ≤ k) (hk : k ≤ 1000000) : vs.toArray.size ≤ sizeLine := by
  rw [List.size_toArray, sizeLine_eq]; omega
end
section
open PySem PySem.W PyProof.Rows PySem.Calls
inductive CharsAre : List Value → List Nat → Prop
  | nil : CharsAre [] []
  | cons (c : Nat) (t : Tok) {vs : List Value} {l : List Nat} : CharsAre vs l → CharsAre (.str (S [c]) t :: vs) (c :: l)
theorem CharsAre.length {vs : List Value} {l : List Nat} (h : CharsAre vs l) : vs.length = l.length := by
  induction h with
  | nil => rfl
  | cons _ _ _ ih => simp [ih]
theorem CharsAre.append {vs ws : List Value} {l k : List Nat} (h : CharsAre vs l) (h' : CharsAre ws k) : CharsAre (vs ++ ws) (l ++ k) := by
  induction h with
  | nil => exact h'
  | cons c t _ ih => exact .cons c t ih
theorem CharsAre.reverse {vs : List Value} {l : List Nat} (h : CharsAre vs l) : CharsAre vs.reverse l.reverse := by
  induction h with
  | nil => exact .nil
  | cons c t _ ih => simpa using ih.append (.cons c t .nil)
theorem CharsAre.of_get : ∀ {l : List Nat} {vs : List Value}, vs.length = l.length → (∀ (i : Nat) (v : Value), vs[i]? = some v → ∃ (c : Nat) (u : Tok), l[i]? = some c ∧ v = Value.str (S [c]) u) → CharsAre vs l
  | [], [], _, _ => .nil
  | [], _ :: _, h, _ => by cases h
  | _ :: _, [], h, _ => by cases h
  | a :: l, v :: vs, h, hg => by
    obtain ⟨c, u, h1, rfl⟩ := hg 0 v rfl
    have e : c = a := by simpa using h1.symm
    subst e
    exact .cons c u (CharsAre.of_get (by simpa using h) fun i w hi => hg (i + 1) w (by simpa using hi))
section
variable {prog : Program} {w : World} {A : Around} {E : Value → Shared → Prop} {s : Shared} {h₀ : Heap} {L : Addr} {m : PySem.Str → Option Value} {news : List (Addr × Obj)} {t : Tok} {Q : Value → Shared → Prop}
end
noncomputable abbrev KeptBut (adr : List Addr) (h h' : Heap) : Prop := ∀ b o, h.get? b = some o → b ∉ adr → h'.get? b = some o
noncomputable abbrev MCon (cT pT : Addr) (n : Nat) (prog : Program) (w : World) (K : Frag) (p : Program) (loose : List PySem.Str) (mean : ExcName → Option Value) (mg mb : PySem.Str → Option Value) (f : Addr) (vs : List Value) (pre : List (Addr × Obj)) (R : Value → List (Addr × Obj) → Prop) : Prop :=
  ∀ (dp un : Nat) (gd : Option (List Code)) (cn : PySem.Str) (cs : Scope) (a : Addr) (ccd : Value) (cl : List (PySem.Str × Addr)) (outer : List Env) (A₀ : Around) (base h₀ : Heap) (L : Addr) (m : PySem.Str → Option Value) (s : Shared) (Q E : Value → Shared → Prop),
    Below A₀ base outer h₀ → Fr h₀ L s.heap m → K.In h₀ → Top p loose mean mg mb h₀ → cs.kind = .function → dp + n < recursionLimit → un + 16 * n < cLine → CodeHd base cT pT → News h₀ L s.heap pre →
    (∀ (v : Value) (post : List (Addr × Obj)) (h' : Heap) (tk' : Nat), Fr h₀ L h' m → News h₀ L h' post → KeptBut (pre.map (·.1)) s.heap h' → R v post → Q v { s with heap := h', toks := tk' }) →
    codeAny (model prog w) (ktrTop dp un gd cn cs L a ccd cl outer) (.call (.ref f) ⟨vs, []⟩) (fun r s' => match r with | .ok (.ret v) => Q v s' | .ok _ => False | .error e => E e s') s
theorem mc_kept {h g h' : Heap} {L' : Addr} {m' : PySem.Str → Option Value} {adr : List Addr} (G : GSub h g adr) (F : Fr g L' h' m') : KeptBut adr h h' := fun b o e n => F.keep b o (G b o e n)
set_option genInjectivity false in
set_option genSizeOf false in
structure RP where
  aP : Addr
  aR : Addr
  dR : Addr
  aF : Addr
  cF : Addr
  aP2 : Addr
  aS : Addr
  dS : Addr
  aL : Addr
  aC : Addr
  t1 : Tok
  t2 : Tok
  t3 : Tok
  t4 : Tok
  t5 : Tok
  s0 : Tok
  s1 : Tok
  s2 : Tok
  s3 : Tok
  s4 : Tok
  s5 : Tok
  s6 : Tok
  oc : Obj
  oC : Obj
  vs : Array Value
  qt : Tok
  q : PySem.Str
  pm : Value
  ctv : Value
set_option genInjectivity false in
set_option genSizeOf false in
structure RP.Ok (r : RP) : Prop where
  d1 : r.oc.data = .fields r.vs
  d2 : r.vs[1]? = some (.str r.q r.qt)
  d3 : r.oC.data = .cell (some (.ref r.aL))
  o1 : @LT.lt Nat _ r.aC r.aL
  o2 : @LT.lt Nat _ r.aL r.dS
  o3 : @LT.lt Nat _ r.dS r.aS
  o4 : @LT.lt Nat _ r.aS r.aP2
  o5 : @LT.lt Nat _ r.aP2 r.cF
  o6 : @LT.lt Nat _ r.cF r.aF
  o7 : @LT.lt Nat _ r.aF r.dR
  o8 : @LT.lt Nat _ r.dR r.aR
  o9 : @LT.lt Nat _ r.aR r.aP
noncomputable abbrev ent (P : Params) (k : String) (t : Tok) (v : Value) : DictEntry := { hash := PyData.keyHash P (PySem.Str.ofString k), key := .str (PySem.Str.ofString k) t, val := v }
noncomputable abbrev wsT : PySem.Str := PySem.Str.ofString "\n\t\r "
noncomputable abbrev lamArgs (line : Nat) : Arguments := { posonlyargs := [], args := [{ arg := PySem.Str.ofString "count", annotation := none, pos := ⟨line, 25, line, 30⟩ : PySem.Arg }], vararg := none, kwonlyargs := [], kw_defaults := [], kwarg := none, defaults := [] }
noncomputable abbrev lamBody (l : Nat) : Expr := .IfExp (.Compare (.Name (PySem.Str.ofString "left") ⟨l, 46, l, 50⟩) [.NotEq] [.List [] ⟨l, 54, l, 56⟩] ⟨l, 46, l, 56⟩) (.Call (.Attribute (.Name (PySem.Str.ofString "left") ⟨l, 32, l, 36⟩) (PySem.Str.ofString "pop") ⟨l, 32, l, 40⟩) [] [] ⟨l, 32, l, 42⟩) (.Constant (.str (PySem.Str.ofString "")) 0 ⟨l, 62, l, 64⟩) ⟨l, 32, l, 64⟩
noncomputable abbrev lamScope : Scope := { kind := .function, names := [(PySem.Str.ofString "count", .local), (PySem.Str.ofString "left", .free)], isGenerator := false, isCoroutine := false, more := [] }
noncomputable def rdr7 (l : Nat) (P : Params) (r : RP) (lf : List Value) (kl : Nat) : List (Addr × Obj) :=
  [(r.aF, kla_obj (PySem.Str.ofString "<lambda>") r.q (lamArgs l) (lamBody l) lamScope [(PySem.Str.ofString "left", r.aC)] r.pm r.cF r.ctv),
   (r.cF, r.oc), (r.aP2, listOf #[] 0), (r.aS, instObj 59 r.dS),
   (r.dS, dictOf [ent P "lineno" r.s1 (.int 1 r.s0), ent P "instream" r.s2 .none, ent P "whitespace" r.s3 (.str wsT r.s4), ent P "pushback" r.s5 (.ref r.aP2), ent P "read" r.s6 (.ref r.aF)] 5),
   (r.aL, listOf lf.toArray kl), (r.aC, r.oC)]
noncomputable abbrev rdr (l : Nat) (P : Params) (r : RP) (ln : Int) (tl : Tok) (pb : List Value) (kp : Nat) (lf : List Value) (kl : Nat) : List (Addr × Obj) :=
  (r.aP, listOf pb.toArray kp) :: (r.aR, instObj 59 r.dR) ::
   (r.dR, dictOf [ent P "lineno" r.t1 (.int ln tl), ent P "instream" r.t2 (.ref r.aS), ent P "whitespace" r.t3 (.str wsT r.t4), ent P "pushback" r.t5 (.ref r.aP)] 4) :: rdr7 l P r lf kl
end
section
open PySem PySem.W PyProof.Rows PySem.Calls
theorem lit_empty : PySem.Str.ofString "" = S [] := by rfl
inductive StrsAre : List Value → List (List Nat) → Prop
  | nil : StrsAre [] []
  | cons (x : List Nat) (t : Tok) {vs : List Value} {l : List (List Nat)} : StrsAre vs l → StrsAre (.str (S x) t :: vs) (x :: l)
theorem StrsAre.length {vs : List Value} {l : List (List Nat)} (h : StrsAre vs l) : vs.length = l.length := by
  induction h with
  | nil => rfl
  | cons _ _ _ ih => simp [ih]
theorem StrsAre.append {vs ws : List Value} {l k : List (List Nat)} (h : StrsAre vs l) (h' : StrsAre ws k) : StrsAre (vs ++ ws) (l ++ k) := by
  induction h with
  | nil => exact h'
  | cons c t _ ih => exact .cons c t ih
theorem CharsAre.strs {vs : List Value} {l : List Nat} (h : CharsAre vs l) : StrsAre vs (l.map fun c => [c]) := by
  induction h with
  | nil => exact .nil
  | cons c t _ ih => exact .cons [c] t ih
noncomputable abbrev Ok8 (ns : List (List Nat)) : Prop := ∀ x ∈ ns, x.all (· < 0x110000) = true
theorem ss_canLayAll0 : ∀ ns : List (List Nat), Ok8 ns → PyData.canLayAll0 (ns.map fun x => PyData.str (S x)) = true
  | [], _ => rfl
  | x :: r, h => by
    have h1 : PyData.strOk (S x) = true := by
      have := h x (.head _)
      simpa [PyData.strOk, S] using this
    simp [PyData.canLayAll0, PyData.canLay0, ss_canLayAll0 r fun y hy => h y (.tail _ hy), h1]
theorem ss_depthAll : ∀ ns : List (List Nat), PyData.depthAll (ns.map fun x => PyData.str (S x)) = 0
  | [] => rfl
  | _ :: r => by simp [PyData.depthAll, PyData.depth, ss_depthAll r]
theorem ss_shaped {ns : List (List Nat)} (h : Ok8 ns) : SeqAt.shaped (.list (ns.map fun x => PyData.str (S x))) = true := by
  simp [SeqAt.shaped, PyData.canLay0, PyData.depth, ss_canLayAll0 ns h, ss_depthAll]
theorem ss_sameAll : ∀ ns ms : List (List Nat), PySem.Spec.sameAll (ns.map fun x => PyData.str (S x)) (ms.map fun x => PyData.str (S x)) = decide (ns = ms)
  | [], [] => by simp [PySem.Spec.sameAll]
  | [], _ :: _ => by simp [PySem.Spec.sameAll]
  | _ :: _, [] => by simp [PySem.Spec.sameAll]
  | a :: r, b :: t => by
    simp only [List.map_cons, PySem.Spec.sameAll, PySem.Spec.same, ss_sameAll r t]
    by_cases h : a = b <;> by_cases h' : r = t <;> simp [h, h', S]
theorem ss_same (ns ms : List (List Nat)) : PySem.Spec.same (.list (ns.map fun x => PyData.str (S x))) (.list (ms.map fun x => PyData.str (S x))) = decide (ns = ms) := by
  simp only [PySem.Spec.same]; exact ss_sameAll ns ms
theorem ss_carried : ∀ {vs : List Value} {ns : List (List Nat)}, StrsAre vs ns → CarriedAll vs (ns.map fun x => PyData.str (S x))
  | _, _, .nil => .nil
  | _, _, .cons _ t r => .cons (.str _ t) (ss_carried r)
section
variable {prog : Program} {w : World} {A : Around} {E : Value → Shared → Prop} {s : Shared} {a b : Addr} {xs ys : List Value} {ns ms : List (List Nat)} {Q : Value → Shared → Prop}
theorem r_ne_strs (ha : s.heap.IsList a xs.toArray) (hb : s.heap.IsList b ys.toArray) (hi : StrsAre xs ns) (hj : StrsAre ys ms) (o1 : Ok8 ns) (o2 : Ok8 ms) (hu : A.units + 64 < cLine) (h : Q (.bool (!decide (ns = ms))) s) :
    wpAny (model prog w) A (compareOp .NotEq (.ref a) (.ref b)) Q E s :=
  ne_dataH_same (reads_newData ha (ss_carried hi)) (reads_newData hb (ss_carried hj)) (ss_shaped o1) (ss_shaped o2) hu (SeqAt.noMix_of_shape (.list .str) rfl _ _ (list_map_has fun _ => rfl) (list_map_has fun _ => rfl)) (by rw [ss_same]; exact h)
theorem kr_pop {s : Shared} {h₀ : Heap} {L D : Addr} {m : PySem.Str → Option Value} {news news' : List (Addr × Obj)} {n : Nat} {us : List Value} {y : Value} {Q : Value → Shared → Prop} (F : Fr h₀ L s.heap m) (N : News h₀ L s.heap news) (U : Upd D (listOf (us ++ [y]).toArray n) (listOf us.toArray (n + 1)) news news')
    (hz : us.length + 1 ≤ sizeLine) (h : ∀ h', Fr h₀ L h' m → News h₀ L h' news' → Q y { s with heap := h' }) : wpAny (model prog w) A (call (.builtin "list.pop") [.ref D]) Q E s :=
  kl_pop F N (p := us) (y := y) (by simpa using kpa_last y us) U (by simpa using hz) h
end
end
section
open PySem PySem.W PyProof.Rows PySem.Calls
noncomputable abbrev citObj (f v : Value) (b : Bool) : Obj := { cls := .type "callable_iterator", data := .fields #[f, v, .bool b] }
theorem slot_cit : Slot "callable_iterator" "__next__" "callable_iterator.__next__" :=
  .of (owner := "callable_iterator") (n := "__next__") (by rw [typeLookup_type, builtinLookup_eq_fast]; kernel_rfl) (by decide +kernel) (by decide +kernel) (by decide +kernel)
    (by first | exact .inl (by decide +kernel) | exact .inr (by decide +kernel)) (by rw [isSubtype_type]; kernel_rfl)
theorem entry_cit : entryFor table "callable_iterator.__next__" = some Builtin.«callable_iterator.__next__» := by first | exact entryFor_of_fast (by kernel_rfl) | exact entryFor_of_tree (by kernel_rfl)
theorem args_cit (a : Value) : argsOk "callable_iterator.__next__" ⟨[a], []⟩ := by unfold argsOk; kernel_rfl
theorem slot_cit_iter : Slot "callable_iterator" "__iter__" "callable_iterator.__iter__" :=
  .of (owner := "callable_iterator") (n := "__iter__") (by rw [typeLookup_type, builtinLookup_eq_fast]; kernel_rfl) (by decide +kernel) (by decide +kernel) (by decide +kernel)
    (by first | exact .inl (by decide +kernel) | exact .inr (by decide +kernel)) (by rw [isSubtype_type]; kernel_rfl)
theorem args_iter2 (a b : Value) : argsOk "iter" ⟨[a, b], []⟩ := by unfold argsOk; kernel_rfl
theorem meth_call_look : typeLookup (.type "method") "__call__" = pure (some (.builtin "method.__call__")) := by rw [typeLookup_type, builtinLookup_eq_fast]; kernel_rfl
theorem entry_cit_iter : entryFor table "callable_iterator.__iter__" = some Builtin.«dict_keyiterator.__iter__» :=
  entryFor_alias (id' := "dict_keyiterator.__iter__") (by first | kernel_rfl | (rw [fastTable_eq_tree]; kernel_rfl)) (by first | rfl | decide +kernel) (by decide +kernel) (by first | kernel_rfl | (rw [fastTable_eq_tree]; kernel_rfl))
theorem args_cit_iter (a : Value) : argsOk "callable_iterator.__iter__" ⟨[a], []⟩ := by unfold argsOk; kernel_rfl
theorem callBorrowed_eq (f : Value) (pos : List Value) : callBorrowed f pos = (call f pos).keep [borrowed] := by
  unfold callBorrowed call runValue
  congr 1
  funext r
  rcases r with e | (_ | _ | _ | _) <;> rfl
section
variable {prog : Program} {w : World} {A : Around} {E : Value → Shared → Prop} {s : Shared} {h₀ : Heap} {L : Addr} {m : PySem.Str → Option Value} {news : List (Addr × Obj)}
theorem r_iter2 {q : Addr} {f self v : Value} {Q : Value → Shared → Prop} (F : Fr h₀ L s.heap m) (N : News h₀ L s.heap news) (hq : (q, methodObj f self) ∈ news)
    (h : ∀ (D : Addr) (h' : Heap), Fr h₀ L h' m → News h₀ L h' ((D, citObj (.ref q) v false) :: news) → (∀ p ∈ news, p.1 < D) → Q (.ref D) { s with heap := h' }) :
    wpAny (model prog w) A (call (.builtin "iter") [.ref q, v]) Q E s := by
  refine call_function_entry (by decide +kernel) (by decide +kernel) kdk_entry_iter (args_iter2 _ _) ?_
  unfold Builtin.«iter»
  refine wpAny_bind (m := someArgs "iter" 1 2 _) (wpAny_of_eq (a := [Value.ref q, v]) (by first | rfl | kernel_rfl!) ?_)
  have hT : s.TypeIs (.ref q) "method" := ⟨_, (N _ hq).1, rfl⟩
  dsimp only
  refine wpAny_bind (wpAny_specialOf hT meth_call_look ?_)
  refine wpAny_bind (wpAny_rule ?_)
  refine wpAny_bind ?_
  exact wpAny_newObj_type (wpAny_pure ⟨_, rfl, h _ _ (F.push _) (News.push F N _ rfl) (fun q hq => Heap.lt_size (N q hq).1)⟩) (by size_fits)
theorem borrows_meth {q f : Addr} {self : Value} {B : Around} {E' : Value → Shared → Prop} {s : Shared} {Q : Bool → Shared → Prop} (Nq : s.heap.get? q = some (methodObj (.ref f) self)) (hf : ∃ o fd, s.heap.get? f = some o ∧ o.data = .func fd) (h : Q true s) :
    wpAny (model prog w) B (borrowsExactly (.ref q)) Q E' s := by
  obtain ⟨o, fd, e1, e2⟩ := hf
  unfold borrowsExactly
  refine wpAny_bind (wpAny_load Nq ?_)
  show wpAny _ _ (if (Value.type "method" == Value.type "method") = true then _ else _) _ _ _
  rw [if_pos (by decide)]
  show wpAny _ _ (load f >>= _) _ _ _
  refine wpAny_bind (wpAny_load e1 ?_)
  rw [e2]
  exact wpAny_pure h
theorem r_citNext {D q f : Addr} {self : Value} {tv : Tok} {Q : Option Value → Shared → Prop} (hh : A.handled = none) (ND : s.heap.get? D = some (citObj (.ref q) (.str (S []) tv) false)) (Nq : s.heap.get? q = some (methodObj (.ref f) self))
    (hf : ∃ o fd, s.heap.get? f = some o ∧ o.data = .func fd)
    (hc : ∀ E', wpAny (model prog w) A.in1 (call (.ref q) []) (fun v s₁ => ∃ x t, v = .str (S x) t ∧ s₁.heap.get? D = some (citObj (.ref q) (.str (S []) tv) false) ∧ s₁.heap.get? q = some (methodObj (.ref f) self) ∧ (∃ o fd, s₁.heap.get? f = some o ∧ o.data = .func fd) ∧
      (x ≠ [] → Q (some v) s₁) ∧ (x = [] → ∀ h', Heap.ExtBut D s₁.heap h' → Q none { s₁ with heap := h' })) E' s) :
    wpAny (model prog w) A (pyNext (.ref D)) Q E s := by
  have hT : s.TypeIs (.ref D) "callable_iterator" := ⟨_, ND, rfl⟩
  unfold pyNext
  refine wpAny_bind (wpAny_attempt (wpAny_callSpecial?_slot (name := Str.ofString "__next__") hT slot_cit
    (wpAny_call_entry slot_cit hT entry_cit ?_ (args_cit _))))
  show wpAny _ _ (field (.ref D) 2 >>= _) _ _ s
  refine wpAny_bind (wpAny_field ND rfl (x := .bool false) rfl ?_)
  show wpAny _ _ (field (.ref D) 0 >>= _) _ _ s
  refine wpAny_bind (wpAny_field ND rfl (x := .ref q) rfl ?_)
  refine wpAny_bind (wpAny_attempt ?_)
  unfold callOutOfASlot
  refine wpAny_bind (borrows_meth Nq hf ?_)
  rw [if_pos rfl, callBorrowed_eq]
  refine Calls.wpAny_keep (wpAny_mono (hc _) (fun v s₁ h₁ => ?_) fun _ _ x => x)
  obtain ⟨x, t, rfl, ND', Nq', hf', hx, hx0⟩ := h₁
  dsimp only
  refine wpAny_bind (wpAny_field ND' rfl (x := .bool false) rfl ?_)
  show wpAny _ _ (field (.ref D) 1 >>= _) _ _ s₁
  refine wpAny_bind (wpAny_field ND' rfl (x := .str (S []) tv) rfl ?_)
  refine wpAny_bind (wpAny_holding (eqBool_str ?_))
  by_cases e : x = []
  · subst e
    rw [show (S [] == S []) = true by simp]
    refine wpAny_bind (wpAny_rule (wpAny_bind ?_))
    show wpAny _ _ (field (.ref D) 0 >>= _) _ _ s₁
    refine wpAny_bind (wpAny_field ND' rfl (x := .ref q) rfl ?_)
    refine wpAny_bind ?_
    unfold slotLetsGo
    show wpAny _ _ (borrowsExactly (.ref q) >>= _) _ _ s₁
    refine wpAny_bind (borrows_meth Nq' hf' ?_)
    rw [if_pos rfl]
    refine wpAny_pure ?_
    refine wpAny_bind (wpAny_setField_rec ND' (by simp) fun h₁ e₁ k₁ => ?_)
    refine wpAny_bind (wpAny_setField_rec (s := { s₁ with heap := h₁ }) e₁ (by simp) fun h₂ e₂ k₂ => ?_)
    refine wpAny_setField_rec (s := { s₁ with heap := h₂ }) e₂ (by simp) fun h₃ e₃ k₃ => ?_
    have k : Heap.SameBut D s₁.heap h₃ := (k₁.trans k₂).trans k₃
    show wpAny _ _ (newExc (.type "StopIteration") [] >>= _) _ _ _
    refine wpAny_bind ?_
    simp only [newExc, newTuple]
    refine wpAny_bind (wpAny_newObj_type ?_ (by size_fits))
    refine wpAny_bind (m := firstArgMember _ _) (wpAny_of_eq (a := Value.none) (by first | rfl | (simp only [firstArgMember]; rfl)) ?_)
    refine wpAny_newObj_type ?_ (by size_fits)
    simp only [raiseNew]
    refine wpAny_bind (wpAny_handled ?_)
    rw [show A.in1.handled = none from hh]
    refine wpAny_bind (wpAny_pure (wpAny_throw ?_))
    refine wpAny_bind (wpAny_isInstance (T := "StopIteration") (b := true) ⟨_, Heap.get?_push_size _ rfl, rfl⟩ isSubtype_stop ?_)
    exact wpAny_pure (hx0 rfl _ ((k.extBut.push _).push _))
  · have e' : (S [] == S x) = false := by rw [S_beq]; cases x with | nil => exact absurd rfl e | cons _ _ => rfl
    rw [e']
    exact wpAny_pure ⟨_, rfl, wpAny_pure (hx e)⟩
end
end
section
open PySem PySem.W PyProof.Rows PySem.Calls
section
variable {prog : Program} {w : World} {A : Around} {E : Value → Shared → Prop} {s : Shared} {h₀ : Heap} {L : Addr} {m : PySem.Str → Option Value} {news : List (Addr × Obj)}
theorem r_citIter {D : Addr} {f v : Value} {b : Bool} {Q : Value → Shared → Prop} (ND : s.heap.get? D = some (citObj f v b)) (h : Q (.ref D) s) : wpAny (model prog w) A (pyIter (.ref D)) Q E s := by
  have hT : s.TypeIs (.ref D) "callable_iterator" := ⟨_, ND, rfl⟩
  refine wpAny_pyIter_slot hT slot_cit_iter (wpAny_call_entry slot_cit_iter hT entry_cit_iter ?_ (args_cit_iter _))
  exact wpAny_pure ⟨_, rfl, "callable_iterator", _, hT, slot_cit.lookup, h⟩
noncomputable def Again (I : Nat → Shared → Prop) (n : Nat) (s : Shared) : Prop := ∃ k, k < n ∧ I k s
noncomputable def TurnK (prog : Program) (w : World) (A : Around) (env : Env) (h₀ : Heap) (x : PySem.Str) (body : List Stmt) (Q : Flow → Shared → Prop) (E : Value → Shared → Prop) (I : Nat → Shared → Prop) (n : Nat) (r : Option Value) (s₁ : Shared) : Prop :=
  match r with
  | none => Q .next s₁
  | some v => ∃ m, Fr h₀ env.locals s₁.heap m ∧ ∀ h₂, Fr h₀ env.locals h₂ (fun y => if y = x then some v else m y) → (∀ news, News h₀ env.locals s₁.heap news → News h₀ env.locals h₂ news) →
      wpAny (model prog w) A (execs body env) (fun f s₃ => match f with | .next | .cont => Again I n s₃ | .brk => Q .next s₃ | .ret v => Q (.ret v) s₃) E { s₁ with heap := h₂, toks := s₁.toks + 1 }
noncomputable def LoopOwn (prog : Program) (w : World) (A : Around) (env : Env) (h₀ : Heap) (x : PySem.Str) (body : List Stmt) (Q : Flow → Shared → Prop) (E : Value → Shared → Prop) (it : Value) (s₂ : Shared) : Prop :=
  ∃ (I : Nat → Shared → Prop) (n : Nat), I n s₂ ∧ ∀ n s, I n s → wpAny (model prog w) A (pyNext it) (TurnK prog w A env h₀ x body Q E I n) E s
theorem For_own {env : Env} {Q : Flow → Shared → Prop} {x : PySem.Str} {px pos : Pos} {iter : Expr} {body : List Stmt} (_F : Fr h₀ env.locals s.heap m) (hx : env.kindOf x = some .local)
    (hp : (env.scope.kind == .class || (env.scope.kind == .module && env.locals != env.globals)) = false)
    (h : wpAny (model prog w) A (eval iter env) (fun xv s₁ => wpAny (model prog w) A (pyIter xv) (fun it s₂ => LoopOwn prog w A env h₀ x body Q E it s₂) E s₁) E s)
    (hs : ∀ x, foldedSetIterable iter env x = pure x := by intro _; rfl)
    (hE : PassesOwn (model prog w) A env E := by passes_own) :
    wpAny (model prog w) A (exec (.For (.Name x px) iter body [] pos) env) Q E s := by
  refine wpAny_For (wpAny_mono h (fun xv s₁ h₁ => wpAny_mono h₁ (fun it s₂ h₂ => ?_) fun _ _ e => e) fun _ _ e => e) hs
  obtain ⟨I, n, hI, turn⟩ := h₂
  refine codeAny_forLoop (R := fun r s' => match r with | .ok f => Q f s' | .error e => cameBackBy (model prog w) A env E e s') I (fun n s hI => ?_) n hI
  refine wpAny_mono (wpAny_passesOwn hE (turn n s hI)) (fun r s₁ h₁ => ?_) fun _ _ e => e
  cases r with
  | none => exact wpAny_execs_nil h₁
  | some v =>
    obtain ⟨m, F, hb⟩ := h₁
    refine wpAny_assign_Name (wpAny_storeName_local hx F.ns (fun h₂ hn₂ hs₂ => ?_) hp)
    refine wpAny_mono (wpAny_passesOwn hE (hb h₂ (F.set hn₂ hs₂) fun news N => N.set hs₂)) (fun f s₃ h₃ => ?_) fun _ _ e => e
    cases f <;> exact h₃
theorem fr_butD {h h' : Heap} {D : Addr} (F : Fr h₀ L h m) (hL : D ≠ L) (h0 : h₀.get? D = none) (e : Heap.ExtBut D h h') : Fr h₀ L h' m :=
  ⟨F.ns.at' fun o e' => e _ o (fun q => hL q.symm) e', fun b o e' => e b o (fun q => by rw [q, h0] at e'; cases e') (F.keep b o e'), F.above⟩
theorem news_butD {h h' : Heap} {D : Addr} (N : News h₀ L h news) (hD : ∀ p ∈ news, p.1 ≠ D) (e : Heap.ExtBut D h h') : News h₀ L h' news :=
  fun p hp => ⟨e _ _ (hD p hp) (N p hp).1, (N p hp).2⟩
theorem news_kept {h h' : Heap} {own : List (Addr × Obj)} {adr : List Addr} (N : News h₀ L h own) (hD : ∀ p ∈ own, p.1 ∉ adr) (e : KeptBut adr h h') : News h₀ L h' own :=
  fun p hp => ⟨e _ _ (N p hp).1 (hD p hp), (N p hp).2⟩
theorem chars_snoc {lf : List Value} {c : Nat} {st : List Nat} (h : CharsAre lf (c :: st).reverse) : ∃ us tc, lf = us ++ [.str (S [c]) tc] ∧ CharsAre us st.reverse := by
  rw [List.reverse_cons] at h
  generalize st.reverse = l at h
  induction l generalizing lf with
  | nil =>
    cases h with
    | cons c t h => cases h; exact ⟨[], t, rfl, .nil⟩
  | cons a l ih =>
    cases h with
    | cons c t h =>
      obtain ⟨us, tc, rfl, hu⟩ := ih h
      exact ⟨_ :: us, tc, rfl, .cons _ t hu⟩
theorem ldnX_L {M : Model} {cn : PySem.Str} {cs : Scope} {a : Addr} {ccd : Value} {cl : List (PySem.Str × Addr)} {x : PySem.Str} {v : Value} {Q : Value → Shared → Prop} (F : Fr h₀ L s.heap m) (hv : m x = some v) (h : Q v s)
    (hk : cs.kind = .function := by rfl) (hx : (envX cn cs L a ccd cl).kindOf x = some .local := by rfl) : wpAny M A (loadName (envX cn cs L a ccd cl) x) Q E s := wpAny_loadName_local hk hx F.ns hv h
theorem r_iadd {x y : PySem.Str} {t u : Tok} {a b : List Nat} {Q : Value → Shared → Prop} (hx : x = S a) (hy : y = S b) (hl : a.length + b.length ≤ 1000000) (h : ∀ t' k, Q (.str (S (a ++ b)) t') { s with toks := k }) : wpAny (model prog w) A (inplaceOp .Add (.str x t) (.str y u)) Q E s := by
  subst hx hy
  exact SB.iadd (fun t' k => by rw [S_app]; exact h t' k) (by rw [S_len, S_len, sizeLine_eq]; omega)
noncomputable def isWs (c : Nat) : Bool := c == 10 || c == 9 || c == 13 || c == 32
theorem r_inWs {c : Nat} {t u : Tok} {Q : Value → Shared → Prop} (h : Q (.bool (isWs c)) s) : wpAny (model prog w) A (compareOp .In (.str (S [c]) t) (.str wsT u)) Q E s := by
  have e : wsT = S [10, 9, 13, 32] := by rfl
  rw [e]
  refine SB.contains ?_
  rw [S_contains1]
  have : decide (c ∈ [10, 9, 13, 32]) = isWs c := by simp only [isWs, List.mem_cons, List.not_mem_nil, or_false, Bool.decide_or, Bool.or_assoc]; rfl
  rw [this]; exact h
end
noncomputable def qrun : List Nat → List Nat → Option (List Nat × List Nat)
  | [], _ => none
  | c :: st, tok => if c = 34 then some (tok, st) else if c = 92 then (match st with | [] => none | d :: st' => qrun st' (tok ++ [d])) else qrun st (tok ++ [c])
noncomputable def prun : List Nat → List Nat → Option (List Nat × List Nat)
  | [], _ => none
  | c :: st, tok => if isWs c then some (tok, st) else if c = 92 then (match st with | [] => none | d :: st' => prun st' (tok ++ [d])) else prun st (tok ++ [c])
noncomputable def getTok : List Nat → Option (List Nat × List Nat)
  | [] => some ([], [])
  | c :: st => if isWs c then getTok st else if c = 34 then qrun st [] else if c = 92 then (match st with | [] => none | d :: st' => prun st' [d]) else prun st [c]
theorem q_quote (st tok : List Nat) : qrun (34 :: st) tok = some (tok, st) := by rw [qrun.eq_def]; simp
theorem q_back (d : Nat) (st tok : List Nat) : qrun (92 :: d :: st) tok = qrun st (tok ++ [d]) := by rw [qrun.eq_def]; simp
theorem q_back0 (tok : List Nat) : qrun [92] tok = none := by rw [qrun.eq_def]; simp
theorem q_plain {c : Nat} (h : c ≠ 34) (h' : c ≠ 92) (st tok : List Nat) : qrun (c :: st) tok = qrun st (tok ++ [c]) := by rw [qrun.eq_def]; simp [h, h']
theorem p_ws {c : Nat} (h : isWs c = true) (st tok : List Nat) : prun (c :: st) tok = some (tok, st) := by rw [prun.eq_def]; simp [h]
theorem p_back (d : Nat) (st tok : List Nat) : prun (92 :: d :: st) tok = prun st (tok ++ [d]) := by rw [prun.eq_def]; simp [isWs]
theorem p_back0 (tok : List Nat) : prun [92] tok = none := by rw [prun.eq_def]; simp [isWs]
theorem p_plain {c : Nat} (h : isWs c = false) (h' : c ≠ 92) (st tok : List Nat) : prun (c :: st) tok = prun st (tok ++ [c]) := by rw [prun.eq_def]; simp [h, h']
theorem g_ws {c : Nat} (h : isWs c = true) (st : List Nat) : getTok (c :: st) = getTok st := by rw [getTok.eq_def]; simp [h]
theorem g_quote (st : List Nat) : getTok (34 :: st) = qrun st [] := by rw [getTok.eq_def]; simp [isWs]
theorem g_back (d : Nat) (st : List Nat) : getTok (92 :: d :: st) = prun st [d] := by rw [getTok.eq_def]; simp [isWs]
theorem g_back0 : getTok [92] = none := by rw [getTok.eq_def]; simp [isWs]
theorem g_plain {c : Nat} (h : isWs c = false) (h1 : c ≠ 34) (h' : c ≠ 92) (st : List Nat) : getTok (c :: st) = prun st [c] := by rw [getTok.eq_def]; simp [h, h1, h']
end
section
open PySem PySem.W PyProof.Rows PySem.Calls
section
variable {prog : Program} {w : World} {A₀ A : Around} {s : Shared} {base h₀ : Heap} {outer : List Env} {L : Addr} {m : PySem.Str → Option Value} {news : List (Addr × Obj)}
theorem code_defCG {K : Frag} {p : Program} {loose : List PySem.Str} {mean : ExcName → Option Value} {mg mb : PySem.Str → Option Value} {env : Env} {R : Result → Shared → Prop} {name qual : PySem.Str} {params : Arguments} {body : List Stmt} {scope : Scope} {dV kV doc pm cdv ct oc : Value} {an od : Option Addr} {osl : Array (Option Value)} {f : Addr} {args : Args} {binds : List (PySem.Str × Value)}
    (B : Below A₀ base outer h₀) (F : Fr h₀ L s.heap m) (X₀ : K.In h₀) (N : News h₀ L s.heap news) (T : Top p loose mean mg mb h₀) (hA : A.frames = some (env :: outer)) (hf : env.frame = some L) (hke : env.scope.kind = .function)
    (ho : K.lookup f = some ⟨oc, od, .func (fnOf name qual params body scope dV kV doc pm an cdv ct), osl⟩) (hcd : codeIn K cdv qual = true) (hroom : A.depth < recursionLimit)
    (hbind : BindsTo s (fnOf name qual params body scope dV kV doc pm an cdv ct) args binds) (hkind : (binds.all fun y => scope.names.lookup y.1 == some .local || scope.names.lookup y.1 == some .cell) = true)
    (hnd : ((cellsFrom 0 scope.names []).map (·.1)).Nodup)
    (h : ∀ g L' h₁ tk cells, Fr h₀ L g m → Fr g L' h₁ (bindL (envOfC qual scope L' f cdv).kindOf binds fun _ => none) → News g L' h₁ (cells ++ news) →
      CellsAre (bindC (envOfC qual scope L' f cdv).kindOf binds fun _ => none) (cellsFrom (L' + 1) scope.names []) cells → Below A base (env :: outer) g → K.In g → Top p loose mean mg mb g → (∀ p ∈ news, p.1 < L') → GSub s.heap g (news.map (·.1)) → @LE.le Nat _ s.heap.objs.size L' →
      wpAny (model prog w) (A.deeper (envOfC qual scope L' f cdv)) (execs body (envOfC qual scope L' f cdv))
        (fun fl s' => LeaveK h₀ L m g R (match fl with | .ret v => v | _ => .none) s')
        (fun e s' => wpAny (model prog w) (A.deeper (envOfC qual scope L' f cdv)) (leaving (envOfC qual scope L' f cdv) e) (fun _ s'' => R (.error e) s'') (fun e' s'' => R (.error e') s'') s')
        { s with heap := h₁, toks := tk })
    (hco : scope.isCoroutine = false) (hgen : scope.isGenerator = false) (hk : scope.kind = .function) : codeAny (model prog w) A (.call (.ref f) args) R s := by
  obtain ⟨FG, BG, st, lv⟩ := groundX (R := R) B F N hA hf hke
  refine codeAny_call_function hroom ((X₀.keeps F.keep) _ _ ho) rfl hco hgen rfl (codeRec_of (X₀.keeps F.keep) hcd) (hbind _ _ _ _ ?_)
  refine wpAny_newFunctionEnv_cells hk (kindsX hkind _) fun env' he s' x => ?_
  subst he
  refine ⟨(T.nolimit.keeps F.keep).keeps x.toInCall.keep, codeAny_func ?_⟩
  obtain ⟨h₁, tk, rfl, _⟩ := x.done
  have hk₁ := x.toInCall.keep
  obtain ⟨cells, NC, Y⟩ := Cl.news (h₀ := s.heap) (Nat.le_refl _) fun n c hm => ⟨x.cell n c (lookup_of_mem_nodup (cellsFrom_names scope.names 0 (s.heap.objs.size + 1) [] [] rfl ▸ hnd) hm), x.above n c hm⟩
  refine wpAny_mono (h _ s.heap.objs.size h₁ tk cells FG ⟨x.toInCall.ns, fun b o e => hk₁ b o (of_hideAll _ e), Nat.le_of_eq (hideAll_size _ _)⟩ (fun p hp => ?_) Y BG (X₀.keeps st) (T.keeps st) (fun p hp => Heap.lt_size (N p hp).1) (fun b o e n => hideAll_get _ e n) (Nat.le_refl _)) (fun fl s' hl => lv _ _ hl) fun _ _ y => y
  rcases List.mem_append.mp hp with hp | hp
  · refine ⟨(NC p hp).1, (NC p hp).2.1, ?_⟩
    cases q : (hideAll s.heap (news.map (·.1))).get? p.1 with
    | none => rfl
    | some o => have := of_hideAll _ q; rw [(NC p hp).2.2] at this; cases this
  · exact ⟨hk₁ _ _ (N p hp).1, Nat.ne_of_lt (Heap.lt_size (N p hp).1), hideAll_none _ (List.mem_map_of_mem hp)⟩
end
end
section
open PySem PySem.W PyProof.Rows PySem.Calls
noncomputable def spelledL (x : List Nat) (f : Int) : List Nat := if f = 0 ∨ x = [] then [34] ++ rep 34 [92, 34] x ++ [34] else x.flatMap fun c => [92, c]
section
variable {prog : Program} {w : World} {A : Around} {E : Value → Shared → Prop} {s : Shared} {t u : Tok} {Q : Value → Shared → Prop}
theorem r_fdiv {a b : Int} (hb : 0 < b) (hs : b < 1073741824) (h : ∀ t' k, Q (.int (a / b) t') { s with toks := k }) : wpAny (model prog w) A (binaryOp .FloorDiv (.int a t) (.int b u)) Q E s := by
  refine floordiv_int (by omega) ?_ (Or.inl (PyProof.noPylong_small (by omega)))
  rw [Int.fdiv_eq_ediv_of_nonneg _ (by omega)]
  exact h _ _
theorem r_fmod {a b : Int} (hb : 0 < b) (h : ∀ t' k, Q (.int (a % b) t') { s with toks := k }) : wpAny (model prog w) A (binaryOp .Mod (.int a t) (.int b u)) Q E s := by
  refine mod_int' (by omega) ?_
  rw [Int.fmod_eq_emod_of_nonneg _ (by omega)]
  exact h _ _
theorem r_item {l : List Nat} {i : Int} {value slice : Expr} (h0 : 0 ≤ i) (h1 : i < (l.length : Nat)) (h2 : l.length ≤ 1000000) (h : ∀ t' k, Q (.str (S [l.getD i.toNat 0]) t') { s with toks := k })
    (hs : subscripted slice false (.str (S l) t) (.int i u) = operate [.str (S l) t, .int i u] (getItem (.str (S l) t) (.int i u)) := by with_unfolding_all rfl)
    (ht : ∀ r, letTemporaryGo value (.str (S l) t) r = pure () := by intro _; with_unfolding_all rfl) :
    wpAny (model prog w) A (subscriptTail value slice (.str (S l) t) (.int i u)) Q E s := by
  have hl : i.toNat < l.length := by omega
  have e : l[i.toNat]? = some (l.getD i.toNat 0) := by
    rw [List.getD_eq_getElem?_getD, List.getElem?_eq_getElem hl]; rfl
  have ei : Txt.item (S l) i = S [l.getD i.toNat 0] := by unfold Txt.item; rw [S_charAt h0 e]; rfl
  refine item_str (fitsSsize_of (N := 9223372036854775808) (by omega) (by omega) (Int.le_refl _)) (by omega) (by rw [S_len]; omega) (fun _ => ?_) hs ht
  rw [ei]; exact h _ _
theorem strs_of_paired {f : Nat → List Nat} : ∀ {l : List Nat} {vs ys : List Value}, vs.length = l.length → (∀ (j : Nat) (v : Value), vs[j]? = some v → SignAt (S l) j v) →
    Paired (fun v r => ∃ c u t, v = Value.str (S [c]) u ∧ r = Value.str (S (f c)) t) vs ys → StrsAre ys (l.map f)
  | [], [], _, _, _, .nil => .nil
  | a :: l, v :: vs, _, hl, hv, .cons hf hp => by
    obtain ⟨c, u, t, rfl, rfl⟩ := hf
    obtain ⟨c', u', e1, e2⟩ := hv 0 _ rfl
    have e3 : a = c' := by simpa [S] using e1
    injection e2 with e4
    have e5 : c = c' := by injection e4 with e6; simpa using e6
    subst e3 e5
    refine .cons _ t (strs_of_paired (by simpa using hl) (fun j w hw => ?_) hp)
    obtain ⟨c2, u2, h1, h2⟩ := hv (j + 1) w (by simpa using hw)
    exact ⟨c2, u2, by simpa [S] using h1, h2⟩
theorem r_compS {h₀ : Heap} {L : Addr} {m : PySem.Str → Option Value} {news : List (Addr × Obj)} {env : Env} {elt : Expr} {xn : PySem.Str} {scope : Scope} {l : List Nat} (f : Nat → List Nat) (hh : A.handled = none) (F : Fr h₀ L s.heap m) (N : News h₀ L s.heap news) (hl : l.length ≤ 1000000)
    (g2 : ∀ C c u s₃ m₃ E', c ∈ l → s₃.heap.Ns C m₃ → m₃ xn = some (.str (S [c]) u) → wpAny (model prog w) A (eval elt (compEnv scope C env)) (fun r s₄ => (∃ t, r = .str (S (f c)) t) ∧ Keeps s₃ s₄) E' s₃)
    (g3 : ∀ D ys h' tk, Fr h₀ L h' m → News h₀ L h' news → h₀.get? D = none → h'.IsList D ys.toArray → StrsAre ys (l.map f) → Q (.ref D) { s with heap := h', toks := tk }) :
    wpAny (model prog w) A (pyIter (.str (S l) t)) (CompPost prog w A env scope xn [] elt Q) E s := by
  unfold CompPost
  refine wpAny_pyIter_str fun o St W hst => ?_
  have up : ∀ (h' : Heap), (∀ b o', b ∉ [s.heap.objs.size] → (s.heap.push o).get? b = some o' → h'.get? b = some o') → ∀ b o', s.heap.get? b = some o' → h'.get? b = some o' :=
    fun h' hk b o' e => hk b o' (old_not_new e) (Heap.get?_push_of_some _ e)
  refine ⟨fun _ => true, fun v r => ∃ c u t, v = Value.str (S [c]) u ∧ r = Value.str (S (f c)) t, s.heap.objs.size, [s.heap.objs.size], [s.heap.objs.size], (S l).cps.size, SignAt (S l), St, rfl, W A hh, by rw [S_size, sizeLine_eq]; omega, hst, ?_, ⟨?_, ?_⟩, ?_⟩
  · intro b hb
    show b < (s.heap.push o).objs.size
    rw [Heap.size_push, List.mem_singleton.mp hb]
    exact Nat.lt_succ_self _
  · intro C i v s₃ m₃ E' hP hn hm _ htk
    exact wpAny_pure ⟨rfl, s₃.heap, s₃.toks, rfl, fun _ _ e => e⟩
  · intro C i v s₃ m₃ E' hP hp hn hm _ htk
    obtain ⟨c, u, hc, rfl⟩ := hP
    have hc' : c ∈ l := List.mem_of_getElem? (i := i) (by simpa [S] using hc)
    exact wpAny_mono (g2 C c u s₃ m₃ E' hc' hn hm) (fun r s₄ h₄ => by obtain ⟨⟨t', rfl⟩, k⟩ := h₄; exact ⟨⟨c, u, t', rfl, rfl⟩, k⟩) fun _ _ e => e
  · intro D h' tk ys vs hnew hlD hplD hlen hP hF hk
    refine g3 D ys.toList h' tk (F.keeps (up h' hk)) (N.grown (up h' hk)) ?_ (by rw [Array.toArray_toList]; exact hlD) ?_
    · cases e : h₀.get? D with
      | none => rfl
      | some o' => rw [Heap.get?_push_of_some _ (F.keep _ _ e)] at hnew; cases hnew
    · have e : vs.filter (fun _ => true) = vs := by simp
      rw [e] at hF
      exact strs_of_paired (by rw [hlen, S_size]) hP hF
end
end
section
open PySem PySem.W PyProof.Rows PySem.Calls
theorem lit34 : PySem.Str.ofString "\"" = S [34] := by rfl
theorem lit92 : PySem.Str.ofString "\\" = S [92] := by rfl
theorem lit10 : PySem.Str.ofString "\n" = S [10] := by rfl
theorem lit38 : PySem.Str.ofString "&" = S [38] := by rfl
theorem lit59 : PySem.Str.ofString ";" = S [59] := by rfl
theorem sum_le {f : Nat → List Nat} {B : Nat} (h : ∀ c, (f c).length ≤ B) : ∀ x : List Nat, ((x.map f).map (·.length)).sum ≤ B * x.length
  | [] => by simp
  | a :: r => by
    have ih := sum_le h r
    have := h a
    simp only [List.map_cons, List.sum_cons, List.length_cons, Nat.mul_add, Nat.mul_one]
    omega
theorem strs_lib : ∀ {vs : List Value} {l : List (List Nat)}, StrsAre vs l → PyProof.Rows.StrsAre vs (l.map S)
  | _, _, .nil => .nil
  | _, _, .cons x t h => .cons (S x) t (strs_lib h)
theorem join_flat : ∀ l : List (List Nat), Str.join (S []) (l.map S) = S l.flatten
  | [] => by simp [Str.join, S]; rfl
  | [a] => by simp [Str.join]
  | a :: b :: r => by
    have ih := join_flat (b :: r)
    rw [List.map_cons] at ih
    show S a ++ S [] ++ Str.join (S []) (S b :: r.map S) = _
    rw [ih, S_app, S_app, List.append_nil]; simp only [List.flatten_cons]
section
variable {prog : Program} {w : World} {A : Around} {E : Value → Shared → Prop} {s : Shared} {t : Tok} {Q : Value → Shared → Prop}
theorem r_join {D : Addr} {ys : List Value} {l : List (List Nat)} {sep : PySem.Str} (hs : sep = S []) (hl : s.heap.IsList D ys.toArray) (hi : StrsAre ys l) (hw : (l.map (·.length)).sum + l.length ≤ 1000000)
    (h : ∀ t' k, Q (.str (S l.flatten) t') { s with toks := k }) : wpAny (model prog w) A (call (.builtin "str.join") [.str sep t, .ref D]) Q E s := by
  subst hs
  refine join_listW hl (by simpa using strs_lib hi) (by rw [S_len]; decide) ?_ fun t' k => ?_
  · have : ((l.map S).map (·.length)) = l.map (·.length) := by rw [List.map_map]; exact List.map_congr_left fun x _ => S_len x
    rw [this, List.length_map]; omega
  · have e : Txt.join (S []) (l.map S) = S l.flatten := (StrLaws.glued_eq_join _ _).trans (join_flat l)
    rw [e]; exact h t' k
end
end
section
open PySem PySem.W PyProof.Rows PySem.Calls
noncomputable def nmL (f0 f1 f2 : List Nat) (c : Nat) : List Nat := if c = 38 then [97, 109, 112] else if c = 60 then [108, 116] else if c = 62 then [103, 116] else if c = 34 then [113, 117, 111, 116] else if c = 13 then f0 else if c = 10 then f1 else f2
noncomputable def wrL (mk f0 f1 f2 : List Nat) (c : Nat) : List Nat := if c ∈ mk then [38] ++ nmL f0 f1 f2 c ++ [59] else [c]
section
variable {prog : Program} {w : World} {A : Around} {E : Value → Shared → Prop} {s : Shared} {h₀ : Heap} {L : Addr} {m : PySem.Str → Option Value} {env : Env}
noncomputable def CompSrcS (prog : Program) (w : World) (A : Around) (h₀ : Heap) (L : Addr) (m : PySem.Str → Option Value) (env : Env) (elt : Expr) (x : PySem.Str) (scope : Scope) (cl : List (PySem.Str × Addr)) (Fin : Shared → List Value → List (Addr × Obj) → Prop) (xv : Value) (s₁ : Shared) : Prop :=
  ∃ (l : List Nat) (t : Tok) (news : List (Addr × Obj)), xv = .str (S l) t ∧ A.handled = none ∧ Fr h₀ L s₁.heap m ∧ News h₀ L s₁.heap news ∧ l.length ≤ 1000000 ∧
    ∀ s₂ : Shared, (∃ h, s₂ = { s₁ with heap := h }) → LCg.CompRest prog w A h₀ L m env elt x scope cl s₂ (fun _ => True) (SignAt (S l)) (Fin s₂) l.length 0 [] news
theorem pyIter_strU {x : PySem.Str} {t : Tok} {Q : Value → Shared → Prop}
    (hQ : ∀ (o : Obj) (St : Nat → Heap → Prop), (∀ A' : Around, A'.handled = none → Walks prog w A' s.heap.objs.size [s.heap.objs.size] [s.heap.objs.size] x.cps.size (SignAt x) St) → St 0 (s.heap.push o) → (∀ i h, St i h → ∃ o, h.get? s.heap.objs.size = some o) →
      (∀ i h h' o, St i h → h.get? s.heap.objs.size = some o → h'.get? s.heap.objs.size = some o → St i h') →
      Q (.ref s.heap.objs.size) { s with heap := s.heap.push o }) : wpAny (model prog w) A (pyIter (.str x t)) Q E s := by
  have key : ∀ (cl : String) (i : Nat) (h h' : Heap) (o : Obj), h.IsStrIter s.heap.objs.size cl x t i → h.get? s.heap.objs.size = some o → h'.get? s.heap.objs.size = some o → h'.IsStrIter s.heap.objs.size cl x t i :=
    fun cl i h h' o st e e' => by obtain ⟨o', q, r⟩ := st; rw [e] at q; cases q; exact ⟨o, e', r⟩
  cases ha : x.cps.all (· < 128)
  · exact wpAny_pyIter_wide ha (hQ _ _ (fun A' hA => Walks.strWide hA _ x t) ⟨_, Heap.get?_push_size _ rfl, rfl, rfl⟩ (fun i h st => by obtain ⟨o, e, _⟩ := st; exact ⟨o, e⟩) (key _))
  · exact wpAny_pyIter_ascii ha (hQ _ _ (fun A' hA => Walks.strAscii hA _ x t) ⟨_, Heap.get?_push_size _ rfl, rfl, rfl⟩ (fun i h st => by obtain ⟨o, e, _⟩ := st; exact ⟨o, e⟩) (key _))
theorem ListComp_S {elt iter : Expr} {x : PySem.Str} {px : Pos} {scope : Scope} {cl : List (PySem.Str × Addr)} {pos : Pos} {Q : Value → Shared → Prop} (_F₀ : Fr h₀ L s.heap m)
    (hclos : closureFor scope env = pure cl) (hcell : ∀ y ∈ scope.names, y.2 ≠ .cell) (hkind : scope.kind = .function)
    (hnames : ∀ y ∈ scope.names, y.2 = .local → scope.names.lookup y.1 = some .local) (hx : scope.names.lookup x = some .local)
    (h : wpAny (model prog w) A (eval iter env) (CompSrcS prog w A h₀ L m env elt x scope cl (fun s₂ => LCg.FinE h₀ L m s₂ Q)) E s)
    (hs : ∀ x, foldedSetIterable iter env x = pure x := by intro _; rfl) :
    wpAny (model prog w) A (eval (.ListComp elt [⟨.Name x px, iter, [], 0⟩] scope pos) env) Q E s := by
  rw [eval_ListComp]
  refine wpAny_comprehension_free (use := none) rfl hs hclos hkind hnames (wpAny_mono h (fun xv s₁ h₁ => ?_) fun _ _ e => e)
  obtain ⟨l, t, news, rfl, hh, F, N, hl, R⟩ := h₁
  refine pyIter_strU fun o St W hst hIo hSt => ?_
  have up : ∀ b o', s₁.heap.get? b = some o' → (s₁.heap.push o).get? b = some o' := fun b o' e => Heap.get?_push_of_some _ e
  refine LCg.block_U (by have := W A hh; rw [S_size] at this; exact this) (by rw [sizeLine_eq]; omega) hIo (fun i h h' o nw st e e' _ _ _ => hSt i h h' o st e e') hcell hkind hx hst (fun b hb => ?_)
    (F.keeps up) (N.grown up) (Nat.ne_of_lt F.ns.lt) (next_is_new F) (fun p hp => Nat.ne_of_lt (Heap.lt_size (N p hp).1)) trivial (R _ ⟨_, rfl⟩) ?_
  · rw [List.mem_singleton.mp hb]
    show s₁.heap.objs.size < (s₁.heap.push _).objs.size
    rw [Heap.size_push]; exact Nat.lt_succ_self _
  · intro D C h tk m' ys news' F' N' o1 hn hC₀ hD₀ hCL hDL hCD offC fin
    refine ⟨m', hn, fun h'' hs'' => fin D h'' tk (F'.change hs'' hCL hC₀) (fun p hp => ?_) o1⟩
    refine ⟨hs''.extBut _ _ ?_ (N' p hp).1, (N' p hp).2⟩
    rcases List.mem_cons.mp hp with rfl | hp
    · exact Ne.symm hCD
    · exact offC p hp
theorem rest_ind {elt : Expr} {x : PySem.Str} {scope : Scope} {cl : List (PySem.Str × Addr)} {Sx : List (Addr × Obj) → Prop} {P : Nat → Value → Prop} {Fin : List Value → List (Addr × Obj) → Prop} {n : Nat} {J : Nat → List Value → List (Addr × Obj) → Prop}
    (step : ∀ i v ys news I oI C oC D m₂ h tk (E' : Value → Shared → Prop), i < n → P i v → J i ys news → LCg.NsObj oC m₂ → m₂ x = some v → Fr h₀ L h m → News h₀ L h ((I, oI) :: (C, oC) :: (D, LCg.lst ys) :: news) → LCg.Off3 I C D news → ((@Ne Nat I C) ∧ (@Ne Nat I D) ∧ (@Ne Nat C D)) →
      wpAny (model prog w) A (eval elt (compEnvC scope cl C env)) (LCg.CompEnd h₀ L m { s with heap := h, toks := tk } I oI C oC D (LCg.lst ys) Sx (fun y news' => J (i + 1) (ys ++ [y]) news')) E' { s with heap := h, toks := tk })
    (fin : ∀ ys news, J n ys news → Fin ys news) : ∀ k i ys news, i + k = n → J i ys news → LCg.CompRest prog w A h₀ L m env elt x scope cl s Sx P Fin k i ys news
  | 0, i, ys, news, hn, hJ => by
    have : i = n := by omega
    subst this
    exact LCg.CompRest.zero (fin _ _ hJ)
  | k + 1, i, ys, news, hn, hJ => by
    refine LCg.CompRest.succ fun v I oI C oC D m₂ h tk E' hP hC hx F N off ne => ?_
    refine wpAny_mono (step i v ys news I oI C oC D m₂ h tk E' (by omega) hP hJ hC hx F N off ne) (fun y s₂ e => ?_) fun _ _ e => e
    obtain ⟨h', tk', news', rfl, F', N', off', hS, hJ'⟩ := e
    exact ⟨h', tk', news', rfl, F', N', off', hS, rest_ind step fin k (i + 1) (ys ++ [y]) news' (by omega) hJ'⟩
theorem r_inF {c : Nat} {mk : List Nat} {t u : Tok} {Q : Value → Shared → Prop} (hm : c ∉ mk) (h : Q (.bool false) s) : wpAny (model prog w) A (compareOp .In (.str (S [c]) t) (.str (S mk) u)) Q E s := by
  refine SB.contains ?_
  rw [S_contains1, decide_eq_false hm]; exact h
theorem r_inT {y : PySem.Str} {c : Nat} {mk : List Nat} {t u : Tok} {Q : Value → Shared → Prop} (hy : y = S [c]) (hm : c ∈ mk) (h : Q (.bool true) s) : wpAny (model prog w) A (compareOp .In (.str y t) (.str (S mk) u)) Q E s := by
  subst hy
  refine SB.contains ?_
  rw [S_contains1, decide_eq_true hm]; exact h
end
theorem lit60 : PySem.Str.ofString "<" = S [60] := by rfl
theorem lit62 : PySem.Str.ofString ">" = S [62] := by rfl
theorem lit13 : PySem.Str.ofString "\r" = S [13] := by rfl
theorem lit9 : PySem.Str.ofString "\t" = S [9] := by rfl
theorem litamp : PySem.Str.ofString "amp" = S [97, 109, 112] := by rfl
theorem litlt : PySem.Str.ofString "lt" = S [108, 116] := by rfl
theorem litgt : PySem.Str.ofString "gt" = S [103, 116] := by rfl
theorem litquot : PySem.Str.ofString "quot" = S [113, 117, 111, 116] := by rfl
theorem wrL_len {mk f0 f1 f2 : List Nat} (h0 : f0.length ≤ 5) (h1 : f1.length ≤ 5) (h2 : f2.length ≤ 5) (c : Nat) : (wrL mk f0 f1 f2 c).length ≤ 7 := by
  have : (nmL f0 f1 f2 c).length ≤ 5 := by
    unfold nmL
    by_cases c1 : c = 38
    · rw [if_pos c1]; decide
    rw [if_neg c1]
    by_cases c2 : c = 60
    · rw [if_pos c2]; decide
    rw [if_neg c2]
    by_cases c3 : c = 62
    · rw [if_pos c3]; decide
    rw [if_neg c3]
    by_cases c4 : c = 34
    · rw [if_pos c4]; decide
    rw [if_neg c4]
    by_cases c5 : c = 13
    · rw [if_pos c5]; exact h0
    rw [if_neg c5]
    by_cases c6 : c = 10
    · rw [if_pos c6]; exact h1
    rw [if_neg c6]; exact h2
  unfold wrL; split
  · simp only [List.length_append, List.length_cons, List.length_nil]; omega
  · simp
end
section
open PySem PySem.W PyProof.Rows PySem.Calls
theorem q_rep : ∀ (x rest tok : List Nat), (∀ c ∈ x, c ≠ 92) → qrun (rep 34 [92, 34] x ++ 34 :: rest) tok = some (tok ++ x, rest)
  | [], rest, tok, _ => by simp [rep, q_quote]
  | c :: x, rest, tok, h => by
    have ih := q_rep x rest (tok ++ [c]) fun d hd => h d (.tail _ hd)
    have h92 : c ≠ 92 := h c (.head _)
    by_cases e : c = 34
    · subst e
      show qrun (([92, 34] ++ rep 34 [92, 34] x) ++ 34 :: rest) tok = _
      show qrun (92 :: 34 :: (rep 34 [92, 34] x ++ 34 :: rest)) tok = _
      rw [q_back, ih]; simp
    · have er : rep 34 [92, 34] (c :: x) = c :: rep 34 [92, 34] x := by simp [rep, e]
      rw [er, List.cons_append, q_plain e h92, ih]; simp
theorem p_esc : ∀ (x rest tok : List Nat), prun ((x.flatMap fun c => [92, c]) ++ 10 :: rest) tok = some (tok ++ x, rest)
  | [], rest, tok => by simp [p_ws (c := 10) (by decide)]
  | c :: x, rest, tok => by
    have ih := p_esc x rest (tok ++ [c])
    show prun (92 :: c :: ((x.flatMap fun c => [92, c]) ++ 10 :: rest)) tok = _
    rw [p_back, ih]; simp
theorem getTok_spelled (x rest : List Nat) (f : Int) (h : ∀ c ∈ x, c ≠ 92) :
    getTok (spelledL x f ++ 10 :: rest) = some (x, if f = 0 ∨ x = [] then 10 :: rest else rest) := by
  unfold spelledL
  by_cases e : f = 0 ∨ x = []
  · rw [if_pos e, if_pos e]
    show getTok (34 :: (rep 34 [92, 34] x ++ [34] ++ 10 :: rest)) = _
    rw [g_quote, List.append_assoc]
    have := q_rep x (10 :: rest) [] h
    simpa using this
  · rw [if_neg e, if_neg e]
    cases x with
    | nil => exact absurd (Or.inr rfl) e
    | cons c x =>
      show getTok (92 :: c :: ((x.flatMap fun c => [92, c]) ++ 10 :: rest)) = _
      rw [g_back, p_esc]; simp
end
section
open PySem PySem.W PyProof.Rows PySem.Calls
section
variable {prog : Program} {w : World} {A : Around} {E : Value → Shared → Prop} {s : Shared}
theorem nextOf_tuple_item {it t : Addr} {i : Nat} {items : Array Value} {x : Value} {Q : Value → Shared → Prop} (hit : s.heap.IsTupleIter it t i)
    (ht : s.heap.IsTuple t items) (hx : items[i]? = some x)
    (hQ : ∀ h', h'.IsTupleIter it t (i + 1) → Heap.SameBut it s.heap h' → Q x { s with heap := h' }) :
    wpAny (model prog w) A (Builtin.SmallTypes.nextOf (.ref it)) Q E s := by
  obtain ⟨o, ho, hc, hd⟩ := id hit
  obtain ⟨ol, hol, _, nl, hdl⟩ := ht
  unfold Builtin.SmallTypes.nextOf
  refine wpAny_bind (wpAny_callSpecial?_slot (name := Str.ofString "__next__") hit.typeIs F.slot_tuple_iterator_next
    (wpAny_call_entry F.slot_tuple_iterator_next hit.typeIs F.entry_tuple_iterator_next ?_ (F.args_tuple_iterator_next_1 _)))
  show wpAny _ _ (field (.ref it) 0 >>= _) _ _ s
  refine wpAny_bind (wpAny_field ho hd (x := .ref t) rfl ?_)
  show wpAny _ _ (if (Value.ref t == Value.none) = true then _ else _) _ _ s
  rw [if_neg (show ¬ ((Value.ref t == Value.none) = true) from Bool.false_ne_true)]
  show wpAny _ _ (field (.ref it) 1 >>= _) _ _ s
  refine wpAny_bind (wpAny_field ho hd (x := .int i 0) rfl ?_)
  show wpAny _ _ (seqItems? (.ref t) >>= _) _ _ s
  refine wpAny_bind (wpAny_seqItems hol hdl ?_)
  simp only [Int.toNat_natCast, hx]
  refine wpAny_bind (wpAny_setField ho hd (by simp) (wpAny_pure ⟨x, rfl, wpAny_pure (hQ _ ?_ (Heap.SameBut.update ..))⟩))
  exact ⟨_, Heap.get?_update_self _ ho (Obj.isFreed_of_fields (Obj.data_mapFields hd _)), (Obj.cls_mapFields ..).trans hc, by
    rw [Obj.data_mapFields hd]; simp [rawInt]⟩
theorem nextOf_tuple_end {it t : Addr} {i : Nat} {items : Array Value} {Q : Value → Shared → Prop} (hh : A.handled = none)
    (hit : s.heap.IsTupleIter it t i) (ht : s.heap.IsTuple t items) (hx : items[i]? = none)
    (hE : ∀ h' e, Heap.ExtBut it s.heap h' → (∃ o, h'.get? e = some o ∧ o.cls = .type "StopIteration") → E (.ref e) { s with heap := h' }) :
    wpAny (model prog w) A (Builtin.SmallTypes.nextOf (.ref it)) Q E s := by
  obtain ⟨o, ho, hc, hd⟩ := id hit
  obtain ⟨ol, hol, _, nl, hdl⟩ := ht
  unfold Builtin.SmallTypes.nextOf
  refine wpAny_bind (wpAny_callSpecial?_slot (name := Str.ofString "__next__") hit.typeIs F.slot_tuple_iterator_next
    (wpAny_call_entry F.slot_tuple_iterator_next hit.typeIs F.entry_tuple_iterator_next ?_ (F.args_tuple_iterator_next_1 _)))
  show wpAny _ _ (field (.ref it) 0 >>= _) _ _ s
  refine wpAny_bind (wpAny_field ho hd (x := .ref t) rfl ?_)
  show wpAny _ _ (if (Value.ref t == Value.none) = true then _ else _) _ _ s
  rw [if_neg (show ¬ ((Value.ref t == Value.none) = true) from Bool.false_ne_true)]
  show wpAny _ _ (field (.ref it) 1 >>= _) _ _ s
  refine wpAny_bind (wpAny_field ho hd (x := .int i 0) rfl ?_)
  show wpAny _ _ (seqItems? (.ref t) >>= _) _ _ s
  refine wpAny_bind (wpAny_seqItems hol hdl ?_)
  simp only [Int.toNat_natCast, hx]
  refine wpAny_bind (wpAny_rule (wpAny_bind (wpAny_setField ho hd (by simp) ?_)))
  show wpAny _ _ (newExc (.type "StopIteration") [] >>= _) _ _ _
  refine wpAny_bind ?_
  simp only [newExc, newTuple]
  refine wpAny_bind (wpAny_newObj_type ?_ (by size_fits))
  refine wpAny_bind (m := firstArgMember _ _) (wpAny_of_eq (a := Value.none) (by first | rfl | (simp only [firstArgMember]; rfl)) ?_)
  refine wpAny_newObj_type ?_ (by size_fits)
  simp only [raiseNew]
  refine wpAny_bind (wpAny_handled ?_)
  first | rw [show A.in1.handled = none from hh] | rw [hh]
  refine wpAny_bind (wpAny_pure (wpAny_throw ?_))
  exact hE _ _ (((Heap.SameBut.update ..).extBut.push _).push _) ⟨_, Heap.get?_push_size _ rfl, rfl⟩
end
theorem draws_tuple {prog : Program} {w : World} {A : Around} (hh : A.handled = none) (it l : Addr) (hne : l ≠ it) (items : Array Value) :
    Draws prog w A it [it, l] items.size (fun i v => items[i]? = some v) (fun i h => h.IsTupleIter it l i ∧ h.IsTuple l items) where
  live := fun _ _ st => let ⟨o, ho, _⟩ := st.1; ⟨o, ho⟩
  frame := fun _ h h' st hk => ⟨let ⟨o, ho, r⟩ := st.1; ⟨o, hk it (by simp) o ho, r⟩, let ⟨o, ho, r⟩ := st.2; ⟨o, hk l (by simp) o ho, r⟩⟩
  item := fun i s Q E hi st hQ => by
    refine nextOf_tuple_item st.1 st.2 (x := items[i]) (by simp [hi]) fun h' hit' hs' => ?_
    exact hQ _ h' s.toks (by simp [hi]) ⟨hit', st.2.extBut hs'.extBut hne⟩ hs'
  done := fun s Q E st hE => nextOf_tuple_end hh st.1 st.2 (by simp) hE
open AutoSeq1 (wpAny_loadPart') in
theorem meets_enumerate_newT (l : Addr) (o : Obj) (items : Array Value) (ho : o.cls = .type "tuple" ∧ ∃ n, o.data = .seq items n) :
    Meets (Builtin.«enumerate.__new__» ⟨[.type "enumerate", .ref l], []⟩) (fun _ R s => s.heap.get? l = some o ∧
      R (.ok (.ret (.ref (s.heap.push { cls := .type "tuple_iterator", data := .fields #[.ref l, .int 0 0] }).objs.size)))
        { s with heap := (s.heap.push { cls := .type "tuple_iterator", data := .fields #[.ref l, .int 0 0] }).push { cls := .type "enumerate", data := .fields #[.none, .bool false, .ref s.heap.objs.size, rawInt 0, .none, .none] } }) :=
  .of_wp fun prog w A R s h => by
    obtain ⟨hp, g, d, tk, os⟩ := s; obtain ⟨hl, h⟩ := h
    have hsub := sub_enumerate
    have hL : Heap.IsTuple (Shared.heap ⟨hp, g, d, tk, os⟩) l items := by obtain ⟨h1, n, h2⟩ := ho; exact ⟨o, hl, h1, n, h2⟩
    wp_walk using wpAny_loadPart' hl, wpAny_pyIter_tuple hL
    refine wpAny_stack_any fun st => wpAny_pure ?_
    split
    · rename_i c _ _ _ _ _
      cases (c == Value.type "enumerate")
      · wp_walk using wpAny_loadPart' hl, wpAny_pyIter_tuple hL
        exact ⟨_, rfl, h⟩
      · wp_walk using wpAny_loadPart' hl, wpAny_pyIter_tuple hL
        exact ⟨_, rfl, h⟩
    · wp_walk using wpAny_loadPart' hl, wpAny_pyIter_tuple hL
      exact ⟨_, rfl, h⟩
theorem call_enumerate_tuple {prog : Program} {w : World} {A : Around} {E : Value → Shared → Prop} {s : Shared} {l : Addr} {items : Array Value} {Q : Value → Shared → Prop} (hL : s.heap.IsTuple l items)
    (h : ∀ h', IsEnum h' (s.heap.objs.size + 1) s.heap.objs.size 0 .none → h'.IsTupleIter s.heap.objs.size l 0 → h'.objs.size = s.heap.objs.size + 2 →
      (∀ b o, s.heap.get? b = some o → h'.get? b = some o) → Q (.ref (s.heap.objs.size + 1)) { s with heap := h' }) :
    wpAny (model prog w) A (call (.type "enumerate") [.ref l]) Q E s := by
  obtain ⟨o, hl, hc, n, hd⟩ := hL
  refine callType_new F.called_enumerate (by decide) (F.typeCall_enumerate_1 _) (F.newCall_enumerate_1 _) (fun obj => F.args_object_init_2 obj _) F.entry_enumerate_new
    (meets_enumerate_newT l o items ⟨hc, n, hd⟩) ⟨hl, ?_⟩
  have hz : (s.heap.push { cls := .type "tuple_iterator", data := .fields #[.ref l, .int 0 0] }).objs.size = s.heap.objs.size + 1 := Heap.size_push ..
  show _ ∧ _
  rw [hz]
  have he : IsEnum ((s.heap.push { cls := .type "tuple_iterator", data := .fields #[.ref l, .int 0 0] }).push
      { cls := .type "enumerate", data := .fields #[.none, .bool false, .ref s.heap.objs.size, rawInt 0, .none, .none] }) (s.heap.objs.size + 1) s.heap.objs.size 0 .none := by
    have := Heap.get?_push_size (s.heap.push { cls := .type "tuple_iterator", data := .fields #[.ref l, .int 0 0] })
      (o := { cls := .type "enumerate", data := .fields #[.none, .bool false, .ref s.heap.objs.size, rawInt 0, .none, .none] }) rfl
    rw [hz] at this; exact this
  refine ⟨⟨_, he, rfl⟩, h _ he ⟨_, Heap.get?_push_of_some _ (Heap.get?_push_size _ rfl), rfl, rfl⟩ (by rw [Heap.size_push, hz]) fun b o x => Heap.get?_push_of_some _ (Heap.get?_push_of_some _ x)⟩
end
section
open PySem PySem.W PyProof.Rows PySem.Calls PyProof.Rows.LCg
noncomputable def KeyIn (it : Addr) (oi : Obj) (l : Addr) (ol : Obj) (nw : List (Addr × Obj)) : Prop := ∃ r, nw = (it, oi) :: r ∧ (l, ol) ∈ r ∧ Off1 it r
noncomputable def CompRestE (prog : Program) (w : World) (A : Around) (h₀ : Heap) (L : Addr) (m : PySem.Str → Option Value) (env : Env) (elt : PySem.Expr) (x x₂ : PySem.Str) (scope : Scope) (cl : List (PySem.Str × Addr)) (s : Shared) (l : Addr) (ol : Obj) (P : Nat → Value → Prop)
    (Fin : List Value → List (Addr × Obj) → Prop) : Nat → Nat → List Value → List (Addr × Obj) → Prop
  | 0, _, ys, news => Fin ys news
  | k + 1, i, ys, news => ∀ v t e oe it oi C oC D m₂ h tk (E' : Value → Shared → Prop), P i v → NsObj oC m₂ → m₂ x = some (.int (i : Int) t) → m₂ x₂ = some v → Fr h₀ L h m → News h₀ L h ((e, oe) :: (C, oC) :: (D, lst ys) :: (it, oi) :: news) → Off3 e C D ((it, oi) :: news) → Off1 it news → ((@Ne Nat e C) ∧ (@Ne Nat e D) ∧ (@Ne Nat C D)) →
      wpAny (model prog w) A (eval elt (compEnvC scope cl C env)) (CompEnd h₀ L m { s with heap := h, toks := tk } e oe C oC D (lst ys) (KeyIn it oi l ol) (fun y nw => CompRestE prog w A h₀ L m env elt x x₂ scope cl s l ol P Fin k (i + 1) (ys ++ [y]) nw.tail)) E' { s with heap := h, toks := tk }
theorem off1_mem {D : Addr} : ∀ {l : List (Addr × Obj)}, Off1 D l → ∀ p ∈ l, p.1 ≠ D
  | [], _, _, h => nomatch h
  | _ :: _, x, p, h => by
    rcases List.mem_cons.mp h with rfl | h
    · exact x.1
    · exact off1_mem x.2 p h
theorem off1_of {D : Addr} : ∀ {l : List (Addr × Obj)}, (∀ p ∈ l, p.1 ≠ D) → Off1 D l
  | [], _ => trivial
  | _ :: _, h => ⟨h _ List.mem_cons_self, off1_of fun p hp => h p (List.mem_cons_of_mem _ hp)⟩
section
variable {prog : Program} {w : World} {A : Around} {E : Value → Shared → Prop} {s : Shared} {h₀ : Heap} {L : Addr} {m : PySem.Str → Option Value} {env : Env}
inductive InvE (prog : Program) (w : World) (A : Around) (h₀ : Heap) (L : Addr) (m : PySem.Str → Option Value) (env : Env) (elt : PySem.Expr) (x x₂ : PySem.Str) (scope : Scope) (cl : List (PySem.Str × Addr)) (s₂ : Shared) (e it l : Addr) (ol : Obj) (n : Nat) (P : Nat → Value → Prop) (St : Nat → Heap → Prop) (Fin : List Value → List (Addr × Obj) → Prop) (D C : Addr) (k : Nat) (s' : Shared) : Prop
  | mk (h' : Heap) (tk i : Nat) (ys : List Value) (m' : PySem.Str → Option Value) (news' : List (Addr × Obj)) : s' = { s₂ with heap := h', toks := tk } → i ≤ n → k = n + 1 - i → ys.length = i → St i h' → Fr h₀ L h' m → h'.Ns C m' → News h₀ L h' ((D, lst ys) :: news') →
    (∀ p ∈ news', p.1 ≠ e ∧ p.1 ≠ it ∧ p.1 ≠ C ∧ p.1 ≠ D) → (l, ol) ∈ news' → CompRestE prog w A h₀ L m env elt x x₂ scope cl s₂ l ol P Fin (n - i) i ys news' → InvE prog w A h₀ L m env elt x x₂ scope cl s₂ e it l ol n P St Fin D C k s'
theorem block_E {elt iter : PySem.Expr} {x x₂ : PySem.Str} {px px₂ tp : Pos} {tt : Nat} {scope : Scope} {cl : List (PySem.Str × Addr)} {pos : Pos} {s₂ : Shared} {e it l : Addr} {ol : Obj} {n : Nat} {P : Nat → Value → Prop} {St : Nat → Heap → Prop} {Mid : Nat → Addr → Heap → Prop} {news : List (Addr × Obj)}
    {Fin : List Value → List (Addr × Obj) → Prop} {RR : Value → Addr → Result → Shared → Prop}
    (W : WalksT prog w A e [e, it, l] [e, it] n (fun i vals => ∃ t x, P i x ∧ vals = #[.int (i : Int) t, x]) St Mid) (hsz : n ≤ sizeLine) (hSo : ∀ i h, St i h → (∃ o, h.get? e = some o) ∧ (∃ o, h.get? it = some o) ∧ h.get? l = some ol)
    (hcell : ∀ y ∈ scope.names, y.2 ≠ .cell) (hkind : scope.kind = .function) (hx : scope.names.lookup x = some .local) (hx₂ : scope.names.lookup x₂ = some .local) (hxx : x ≠ x₂) (hh : A.handled = none) (hst : St 0 s₂.heap) (hfp : ∀ b ∈ [e, it, l], b < s₂.heap.objs.size)
    (F : Fr h₀ L s₂.heap m) (N : News h₀ L s₂.heap news) (hIL : L ≠ e) (hI₀ : h₀.get? e = none) (hiL : L ≠ it) (hi₀ : h₀.get? it = none) (hei : e ≠ it) (off : ∀ p ∈ news, p.1 ≠ e ∧ p.1 ≠ it) (hS : (l, ol) ∈ news)
    (R : CompRestE prog w A h₀ L m env elt x x₂ scope cl s₂ l ol P Fin n 0 [] news)
    (hRR : ∀ D C h tk m' ys news', Fr h₀ L h m → News h₀ L h ((D, lst ys) :: news') → Off1 D news' → (∀ p ∈ news, p.1 < D) → h.Ns C m' → h₀.get? C = none → h₀.get? D = none → C ≠ L → D ≠ L → C ≠ D → (∀ p ∈ news', p.1 ≠ C) → Fin ys news' → RR (.ref D) C (.ok .next) { s₂ with heap := h, toks := tk }) :
    wpAny (model prog w) A (newList []) (fun acc s₃ => wpAny (model prog w) A (newFunctionEnv scope env.globals cl [] env.qual none .none (some env)) (fun cenv s₄ =>
      codeAny (model prog w) A (.compStart (.ListComp elt [⟨.Tuple [.Name x px, .Name x₂ px₂] tt tp, iter, [], 0⟩] scope pos) 0 (.ref e) acc { cenv with scope := relabel scope env }) (RR acc cenv.locals) s₄) E s₃) E s₂ := by
  refine wpAny_newObj_type (wpAny_newFunctionEnv hcell (by intro y hy; simp at hy) (fun h₁ hns₁ hsb₁ => ?_) hkind)
  dsimp only at hns₁ hsb₁ ⊢
  generalize hH2 : s₂.heap.push { cls := .type "list", dict := none, data := .seq ([] : List Value).toArray } = H2 at hns₁ hsb₁ ⊢
  have hC : H2.objs.size = s₂.heap.objs.size + 1 := by rw [← hH2, Heap.size_push]
  have hDC : s₂.heap.objs.size ≠ H2.objs.size := by rw [hC]; exact Nat.ne_of_lt (Nat.lt_succ_self _)
  have below : ∀ b, b < s₂.heap.objs.size → b ≠ H2.objs.size ∧ b ≠ s₂.heap.objs.size := fun b hb => ⟨by rw [hC]; exact Nat.ne_of_lt (Nat.lt_succ_of_lt hb), Nat.ne_of_lt hb⟩
  have hDf : s₂.heap.objs.size ∉ [e, it, l] := fun hm => Nat.lt_irrefl _ (hfp _ hm)
  have hCf : H2.objs.size ∉ [e, it, l] := fun hm => by have := hfp _ hm; rw [hC] at this; exact Nat.lt_irrefl _ (Nat.lt_of_succ_lt this)
  have hIlt : e < s₂.heap.objs.size := hfp e (.head _)
  have hilt : it < s₂.heap.objs.size := hfp it (.tail _ (.head _))
  have old : ∀ b o, s₂.heap.get? b = some o → h₁.get? b = some o := fun b o e => hsb₁.extBut b o (below b (Heap.lt_size e)).1 (Heap.get?_push_of_some _ (hH2 ▸ Heap.get?_push_of_some _ e))
  have hacc : h₁.get? s₂.heap.objs.size = some (lst []) := hsb₁.extBut _ _ hDC (Heap.get?_push_of_some _ (hH2 ▸ Heap.get?_push_size _ rfl))
  have hst₁ : St 0 h₁ := W.frame _ _ _ hst fun b _ o e => old b o e
  have fresh : ∀ a, s₂.heap.objs.size ≤ a → s₂.heap.get? a = none := fun a ha => by
    cases e : s₂.heap.get? a with
    | none => rfl
    | some o' => exact absurd (Heap.lt_size e) (Nat.not_lt.mpr ha)
  have fresh₀ : ∀ a, s₂.heap.objs.size ≤ a → h₀.get? a = none := fun a ha => by
    cases e : h₀.get? a with
    | none => rfl
    | some o' => have := F.keep a o' e; rw [fresh a ha] at this; cases this
  have hD₀ : h₀.get? s₂.heap.objs.size = none := fresh₀ _ (Nat.le_refl _)
  have hC₀ : h₀.get? H2.objs.size = none := fresh₀ _ (by rw [hC]; exact Nat.le_succ _)
  have hLlt : L < s₂.heap.objs.size := F.ns.lt
  have hDL : s₂.heap.objs.size ≠ L := Ne.symm (below L hLlt).2
  have hCL : H2.objs.size ≠ L := Ne.symm (below L hLlt).1
  have hCI : e ≠ H2.objs.size := (below e hIlt).1
  have hDI : e ≠ s₂.heap.objs.size := (below e hIlt).2
  have hCi : it ≠ H2.objs.size := (below it hilt).1
  have hDi : it ≠ s₂.heap.objs.size := (below it hilt).2
  have off₀ : ∀ p ∈ news, p.1 ≠ e ∧ p.1 ≠ it ∧ p.1 ≠ H2.objs.size ∧ p.1 ≠ s₂.heap.objs.size := fun p hp => ⟨(off p hp).1, (off p hp).2, (below _ (Heap.lt_size (N p hp).1)).1, (below _ (Heap.lt_size (N p hp).1)).2⟩
  have loop : ∀ s₃ : Shared, s₃ = { s₂ with heap := h₁, toks := s₂.toks + ([] : List (PySem.Str × Value)).length } →
      codeAny (model prog w) A (.compLoop (.ListComp elt [⟨.Tuple [.Name x px, .Name x₂ px₂] tt tp, iter, [], 0⟩] scope pos) 0 (.ref e) (.ref s₂.heap.objs.size) (compEnvC scope cl H2.objs.size env))
        (RR (.ref s₂.heap.objs.size) H2.objs.size) s₃ := by
    rintro s₃ rfl
    obtain ⟨I, hI⟩ : ∃ I : Nat → Shared → Prop, I = InvE prog w A h₀ L m env elt x x₂ scope cl s₂ e it l ol n P St Fin s₂.heap.objs.size H2.objs.size := ⟨_, rfl⟩
    refine LCp.codeAny_compLoop_pair I ?_ (n + 1) ?ini
    case ini =>
      rw [hI]
      refine ⟨h₁, _, 0, [], _, news, rfl, Nat.zero_le _, rfl, rfl, hst₁, F.keeps old, hns₁, fun p hp => ?_, off₀, hS, R⟩
      rcases List.mem_cons.mp hp with rfl | hp
      · exact ⟨hacc, hDL, hD₀⟩
      · exact ⟨old _ _ (N p hp).1, (N p hp).2⟩
    · intro k s' hi9
      rw [hI] at hi9
      obtain ⟨h', tk, i, ys, m', news', rfl, hi, rfl, hyl, hst', F', hn', N', off', hS', R'⟩ := hi9
      have keepW : ∀ h₂ : Heap, (∀ b o, b ∉ [e, it] → h'.get? b = some o → h₂.get? b = some o) → Fr h₀ L h₂ m ∧ News h₀ L h₂ ((s₂.heap.objs.size, lst ys) :: news') ∧ h₂.Ns H2.objs.size m' := fun h₂ hk₂ => by
        have ne2 : ∀ b, b ≠ e → b ≠ it → b ∉ [e, it] := fun b h1 h2 hm => by
          rcases List.mem_cons.mp hm with q | hm
          · exact h1 q
          · exact h2 (List.mem_singleton.mp hm)
        refine ⟨⟨F'.ns.at' fun o q => hk₂ L o (ne2 L hIL hiL) q, fun b o q => hk₂ b o (ne2 b (fun r => by rw [r, hI₀] at q; cases q) (fun r => by rw [r, hi₀] at q; cases q)) (F'.keep b o q), F'.above⟩, fun p hp => ?_, hn'.at' fun o q => hk₂ _ o (ne2 _ (Ne.symm hCI) (Ne.symm hCi)) q⟩
        refine ⟨hk₂ _ _ ?_ (N' p hp).1, (N' p hp).2⟩
        rcases List.mem_cons.mp hp with rfl | hp
        · exact ne2 _ (Ne.symm hDI) (Ne.symm hDi)
        · exact ne2 _ (off' p hp).1 (off' p hp).2.1
      by_cases hlt : i < n
      · obtain ⟨j, hj⟩ : ∃ j, n - i = j + 1 := ⟨n - i - 1, by omega⟩
        rw [hj] at R'
        refine W.item i _ _ _ hlt hst' fun T vals h₂ tk₂ hPt _ hT hMid hk₂ => ?_
        obtain ⟨t, v, hPv, rfl⟩ := hPt
        refine W.go _ tt tp i T _ _ _ hMid fun h₄ hst₄ hk₄ => ?_
        have ht : h₄.IsTuple T #[.int (i : Int) t, v] := hT.at fun o q => hk₄ T o (W.apart i T h₂ hMid) q
        have hk24 : ∀ b o, b ∉ [e, it] → h'.get? b = some o → h₄.get? b = some o := fun b o hb q => hk₄ b o hb (hk₂ b o hb q)
        obtain ⟨F₄, N₄, hn₄⟩ := keepW h₄ hk24
        refine kcp_assign hh ht (lookup_relabel_local hx) (lookup_relabel_local hx₂) (by simp [compEnvC, relabel, hkind]) hn₄ fun h₃ tk₃ hn₃ up₃ => ?_
        have hst₃ : St (i + 1) h₃ := W.frame _ _ _ hst₄ fun b hb o q => up₃ b o (fun r => hCf (by have q' : b = H2.objs.size := r; rw [← q']; exact hb)) q
        obtain ⟨⟨oe, hoe⟩, ⟨oi, hoi⟩, hol⟩ := hSo _ _ hst₃
        obtain ⟨oC, heC, hoC⟩ := ns_obj hn₃
        have F₃ : Fr h₀ L h₃ m := ⟨F₄.ns.at' fun o q => up₃ L o (Ne.symm hCL) q, fun b o q => up₃ b o (fun r => by have q' : b = H2.objs.size := r; rw [q', hC₀] at q; cases q) (F₄.keep b o q), F₄.above⟩
        have N₃ : News h₀ L h₃ ((e, oe) :: (H2.objs.size, oC) :: (s₂.heap.objs.size, lst ys) :: (it, oi) :: news') := fun p hp => by
          rcases List.mem_cons.mp hp with rfl | hp
          · exact ⟨hoe, Ne.symm hIL, hI₀⟩
          · rcases List.mem_cons.mp hp with rfl | hp
            · exact ⟨heC, hCL, hC₀⟩
            · rcases List.mem_cons.mp hp with rfl | hp
              · exact ⟨up₃ _ _ hDC (N₄ _ (.head _)).1, hDL, hD₀⟩
              · rcases List.mem_cons.mp hp with rfl | hp
                · exact ⟨hoi, Ne.symm hiL, hi₀⟩
                · exact ⟨up₃ _ _ (off' p hp).2.2.1 (N₄ _ (.tail _ hp)).1, (N₄ _ (.tail _ hp)).2⟩
        refine wpAny_mono (R' v t e oe it oi H2.objs.size oC s₂.heap.objs.size _ h₃ tk₃ _ hPv hoC (by simp [hxx]) (by simp) F₃ N₃ (Off3.of fun p hp => ?_) (off1_of fun p hp => (off' p hp).2.1) ⟨hCI, hDI, Ne.symm hDC⟩) (fun y s₄ h₄ => ?_) fun _ _ e => e
        · rcases List.mem_cons.mp hp with rfl | hp
          · exact ⟨Ne.symm hei, hCi, hDi⟩
          · exact ⟨(off' p hp).1, (off' p hp).2.2⟩
        obtain ⟨h₄, tk₄, nw₄, rfl, F₄, N₄, off₄, ⟨news₄, rfl, hS₄, o4⟩, R₄⟩ := h₄
        have zI := (N₄ (e, oe) List.mem_cons_self).1
        have zC := (N₄ (H2.objs.size, oC) (List.mem_cons_of_mem _ List.mem_cons_self)).1
        have zD := (N₄ (s₂.heap.objs.size, lst ys) (List.mem_cons_of_mem _ (List.mem_cons_of_mem _ List.mem_cons_self))).1
        have zi := (N₄ (it, oi) (.tail _ (.tail _ (.tail _ (.head _))))).1
        have N₄' : News h₀ L h₄ news₄ := fun p hp => N₄ p (.tail _ (.tail _ (.tail _ (.tail _ hp))))
        have zl := (N₄' _ hS₄).1
        have hst₅ : St (i + 1) h₄ := W.frame _ _ _ hst₃ fun b hb o q => by
          simp only [List.mem_cons, List.not_mem_nil, or_false] at hb
          rcases hb with rfl | rfl | rfl
          · rw [hoe] at q; cases q; exact zI
          · rw [hoi] at q; cases q; exact zi
          · rw [hol] at q; cases q; exact zl
        have off4 := off₄.mem
        have hn4i : ∀ p ∈ news₄, p.1 ≠ it := off1_mem o4
        refine append_at (hsz := by show ys.toArray.size ≤ sizeLine; rw [List.size_toArray, hyl]; exact Nat.le_trans hi hsz) zD fun h₅ hs₅ hD₅ => ?_
        refine ⟨n + 1 - (i + 1), by omega, ?_⟩
        rw [hI]
        refine ⟨h₅, tk₄, i + 1, ys ++ [y], _, news₄, rfl, hlt, rfl, by rw [List.length_append, List.length_singleton, hyl], W.frame _ _ _ hst₅ fun b hb o e => hs₅.extBut b o (fun q => hDf (q ▸ hb)) e, F₄.change hs₅ hDL hD₀,
          (hoC.ns zC).sameBut hs₅ (Ne.symm hDC), fun p hp => ?_, fun p hp => ⟨(off4 p (.tail _ hp)).1, hn4i p hp, (off4 p (.tail _ hp)).2⟩, hS₄, ?_⟩
        · rcases List.mem_cons.mp hp with rfl | hp
          · exact ⟨hD₅.trans (congrArg some (lst_snoc ys y)), hDL, hD₀⟩
          · exact ⟨hs₅.extBut _ _ (off4 p (.tail _ hp)).2.2 (N₄' p hp).1, (N₄' p hp).2⟩
        · rw [show n - (i + 1) = j by omega]
          exact R₄
      · obtain rfl : i = n := Nat.le_antisymm hi (Nat.not_lt.mp hlt)
        rw [Nat.sub_self] at R'
        refine W.done _ _ _ hst' fun h₂ tk₂ hk₂ => ?_
        obtain ⟨F₂, N₂, hn₂⟩ := keepW h₂ hk₂
        exact hRR _ _ h₂ tk₂ _ ys news' F₂ N₂ (off1_of fun p hp => (off' p hp).2.2.2) (fun p hp => Heap.lt_size (N p hp).1) hn₂ hC₀ hD₀ hCL hDL (Ne.symm hDC) (fun p hp => (off' p hp).2.2.1) R'
  exact codeAny_compStart_list (loop _ rfl) (W.self 0 _ _ _ hst₁ (loop _ rfl))
end
end
section
open PySem PySem.W PyProof.Rows PySem.Calls PyProof.Rows.LCg
theorem walksT_and {prog : Program} {w : World} {A : Around} {e it l : Addr} {n n' : Nat} {ol : Obj} {Pt Pt' : Nat → Array Value → Prop} {St : Nat → Heap → Prop} {Mid : Nat → Addr → Heap → Prop} (W0 : WalksT prog w A e [e, it, l] [e, it] n Pt St Mid) (hn : n = n') (hp : ∀ i v, Pt i v → Pt' i v) (h1 : l ≠ e) (h2 : l ≠ it) :
    WalksT prog w A e [e, it, l] [e, it] n' Pt' (fun i h => St i h ∧ h.get? l = some ol) (fun i T h => Mid i T h ∧ h.get? l = some ol) := by
  subst hn
  have nin : l ∉ [e, it] := fun hm => by
    simp only [List.mem_cons, List.not_mem_nil, or_false] at hm
    rcases hm with q | q
    · exact h1 q
    · exact h2 q
  exact {
      sub := W0.sub
      frame := fun i h h' st k => ⟨W0.frame i h h' st.1 k, k l (by simp) _ st.2⟩
      item := fun i s' Q E hi st hQ => W0.item i s' Q E hi st.1 fun T vals h2 tk hP hs hT hM hk => hQ T vals h2 tk (hp _ _ hP) hs hT ⟨hM, hk _ _ nin st.2⟩ hk
      go := fun elts k pos i T s' Q E hm hQ => W0.go elts k pos i T s' Q E hm.1 fun h2 st hk => hQ h2 ⟨st, hk _ _ nin hm.2⟩ hk
      apart := fun i T h2 hm => W0.apart i T h2 hm.1
      done := fun s' Q E st hQ => W0.done s' Q E st.1 hQ
      self := fun i s' Q E st hQ => W0.self i s' Q E st.1 hQ }
section
variable {prog : Program} {w : World} {A : Around} {E : Value → Shared → Prop} {s : Shared} {h₀ : Heap} {L : Addr} {m : PySem.Str → Option Value} {env : Env}
noncomputable def SrcE (prog : Program) (w : World) (A : Around) (h₀ : Heap) (L : Addr) (m : PySem.Str → Option Value) (env : Env) (elt : PySem.Expr) (x x₂ : PySem.Str) (scope : Scope) (cl : List (PySem.Str × Addr)) (Fin : List (Addr × Obj) → Shared → List Value → List (Addr × Obj) → Prop) (xv : Value) (s₁ : Shared) : Prop :=
  ∃ (e it l : Addr) (ol : Obj) (n : Nat) (P : Nat → Value → Prop) (St : Nat → Heap → Prop) (Mid : Nat → Addr → Heap → Prop) (news : List (Addr × Obj)), xv = .ref e ∧ A.handled = none ∧
    WalksT prog w A e [e, it, l] [e, it] n (fun i vals => ∃ t x, P i x ∧ vals = #[.int (i : Int) t, x]) St Mid ∧ n ≤ sizeLine ∧ (∀ i h, St i h → (∃ o, h.get? e = some o) ∧ (∃ o, h.get? it = some o) ∧ h.get? l = some ol) ∧
    St 0 s₁.heap ∧ Fr h₀ L s₁.heap m ∧ News h₀ L s₁.heap news ∧ L ≠ e ∧ h₀.get? e = none ∧ L ≠ it ∧ h₀.get? it = none ∧ e ≠ it ∧ (∀ p ∈ news, p.1 ≠ e ∧ p.1 ≠ it) ∧ (l, ol) ∈ news ∧
    CompRestE prog w A h₀ L m env elt x x₂ scope cl s₁ l ol P (Fin news s₁) n 0 [] news
noncomputable abbrev tupObj (l : List Value) : Obj := { cls := .type "tuple", data := .seq l.toArray }
theorem srcE_tuple {elt : PySem.Expr} {x x₂ : PySem.Str} {scope : Scope} {cl : List (PySem.Str × Addr)} {Fin : List (Addr × Obj) → Shared → List Value → List (Addr × Obj) → Prop} {l : Addr} {its : List Value} {news : List (Addr × Obj)} (hh : A.handled = none)
    (F : Fr h₀ L s.heap m) (N : News h₀ L s.heap news) (hl : (l, tupObj its) ∈ news) (hz : its.length ≤ 1000000)
    (h : ∀ h', CompRestE prog w A h₀ L m env elt x x₂ scope cl { s with heap := h' } l (tupObj its) (fun i v => its[i]? = some v) (Fin news { s with heap := h' }) its.length 0 [] news) :
    wpAny (model prog w) A (call (.type "enumerate") [.ref l]) (SrcE prog w A h₀ L m env elt x x₂ scope cl Fin) E s := by
  have hL : s.heap.IsTuple l its.toArray := ⟨_, (N _ hl).1, rfl, _, rfl⟩
  have hlt : l < s.heap.objs.size := Heap.lt_size (N _ hl).1
  refine call_enumerate_tuple hL fun h' he hit hsz keep => ?_
  have fresh : ∀ a, s.heap.objs.size ≤ a → h₀.get? a = none := fun a ha => by
    cases e : h₀.get? a with
    | none => rfl
    | some o' => exact absurd (Heap.lt_size (F.keep a o' e)) (Nat.not_lt.mpr ha)
  have hL1 : L < s.heap.objs.size := F.ns.lt
  have W0 := WalksT.enumerateD (prog := prog) (w := w) (A := A) (draws_tuple (A := A.in1) hh s.heap.objs.size l (Nat.ne_of_lt hlt) its.toArray) (s.heap.objs.size + 1) (Nat.succ_ne_self _)
    (fun hm => by
      simp only [List.mem_cons, List.not_mem_nil, or_false] at hm
      rcases hm with q | q
      · exact absurd q (Nat.succ_ne_self _)
      · exact absurd q (Nat.ne_of_gt (Nat.lt_succ_of_lt hlt))) (.head _)
  refine ⟨s.heap.objs.size + 1, s.heap.objs.size, l, tupObj its, its.length, fun i v => its[i]? = some v, _, _, news, rfl, hh, walksT_and (ol := _) W0 (List.size_toArray ..) (fun i v hP => by obtain ⟨t, x, hx, rfl⟩ := hP; exact ⟨t, x, by simpa using hx, rfl⟩) (Nat.ne_of_lt (Nat.lt_succ_of_lt hlt)) (Nat.ne_of_lt hlt), by rw [sizeLine_eq]; omega, fun i h st => ?_, ⟨⟨⟨_, he⟩, hit, hL.at fun o e => keep _ o e⟩, keep _ _ (N _ hl).1⟩, F.keeps keep, N.grown keep, ?_, fresh _ (Nat.le_succ _), ?_, fresh _ (Nat.le_refl _), Nat.succ_ne_self _, fun p hp => ?_, hl, h _⟩
  · exact ⟨(let ⟨⟨_, q⟩, _⟩ := st.1; ⟨_, q⟩), (let ⟨_, ⟨o, q, _⟩, _⟩ := st.1; ⟨o, q⟩), st.2⟩
  · exact Nat.ne_of_lt (Nat.lt_succ_of_lt hL1)
  · exact Nat.ne_of_lt hL1
  · have := Heap.lt_size (N p hp).1
    exact ⟨Nat.ne_of_lt (Nat.lt_succ_of_lt this), Nat.ne_of_lt this⟩
end
end
section
open PySem PySem.W PyProof.Rows PySem.Calls PyProof.Rows.LCg
section
variable {prog : Program} {w : World} {A : Around} {E : Value → Shared → Prop} {s : Shared} {h₀ : Heap} {L : Addr} {m : PySem.Str → Option Value} {env : Env}
theorem restE_ind {elt : PySem.Expr} {x x₂ : PySem.Str} {scope : Scope} {cl : List (PySem.Str × Addr)} {l : Addr} {ol : Obj} {P : Nat → Value → Prop} {Fin : List Value → List (Addr × Obj) → Prop} {n : Nat} {J : Nat → List Value → List (Addr × Obj) → Prop}
    (step : ∀ i v t ys news e oe it oi C oC D m₂ h tk (E' : Value → Shared → Prop), i < n → P i v → J i ys news → NsObj oC m₂ → m₂ x = some (.int (i : Int) t) → m₂ x₂ = some v → Fr h₀ L h m → News h₀ L h ((e, oe) :: (C, oC) :: (D, lst ys) :: (it, oi) :: news) → Off3 e C D ((it, oi) :: news) → Off1 it news → ((@Ne Nat e C) ∧ (@Ne Nat e D) ∧ (@Ne Nat C D)) →
      wpAny (model prog w) A (eval elt (compEnvC scope cl C env)) (CompEnd h₀ L m { s with heap := h, toks := tk } e oe C oC D (lst ys) (KeyIn it oi l ol) (fun y nw => J (i + 1) (ys ++ [y]) nw.tail)) E' { s with heap := h, toks := tk })
    (fin : ∀ ys news, J n ys news → Fin ys news) : ∀ k i ys news, i + k = n → J i ys news → CompRestE prog w A h₀ L m env elt x x₂ scope cl s l ol P Fin k i ys news
  | 0, i, ys, news, hn, hJ => by
    have : i = n := by omega
    subst this
    exact fin _ _ hJ
  | k + 1, i, ys, news, hn, hJ => by
    intro v t e oe it oi C oC D m₂ h tk E' hP hC hx hx2 F N off off1 ne
    refine wpAny_mono (step i v t ys news e oe it oi C oC D m₂ h tk E' (by omega) hP hJ hC hx hx2 F N off off1 ne) (fun y s₂ e => ?_) fun _ _ e => e
    obtain ⟨h', tk', news', rfl, F', N', off', hS, hJ'⟩ := e
    exact ⟨h', tk', news', rfl, F', N', off', hS, restE_ind step fin k (i + 1) (ys ++ [y]) news'.tail (by omega) hJ'⟩
theorem keyIn_mk {it l : Addr} {oi ol : Obj} {r : List (Addr × Obj)} (h : (l, ol) ∈ r) (o : Off1 it r) : KeyIn it oi l ol ((it, oi) :: r) := ⟨r, rfl, h, o⟩
theorem r_sliceInts {value slice : PySem.Expr} {l : Addr} {vs : List Value} {ns : List Int} {vl vu vk : Value} {lo hi st : Option Int} {ops : List Value} {news : List (Addr × Obj)} {Q : Value → Shared → Prop}
    (F : Fr h₀ L s.heap m) (N : News h₀ L s.heap news) (hl : h₀.IsList l vs.toArray) (pl : IsPart vl lo) (pu : IsPart vu hi) (pk : IsPart vk st) (h0 : st ≠ some 0) (hI : IntsAre vs ns)
    (h : ∀ D ws ms h', Fr h₀ L h' m → News h₀ L h' ((D, listOf (List.toArray ws) 0) :: news) → (∀ p ∈ news, p.1 < D) → IntsAre ws ms ∧ ms.length ≤ ns.length → Q (.ref D) { s with heap := h' })
    (hs : subscripted slice false (.ref l) (.ref s.heap.objs.size) = operate ops (getItem (.ref l) (.ref s.heap.objs.size)))
    (ht : ∀ r, letTemporaryGo value (.ref l) r = pure ()) (hsz : ns.length ≤ 1000) :
    wpAny (model prog w) A (subscriptTail value slice (.ref l) (.ref s.heap.objs.size)) Q E { s with heap := s.heap.push { cls := .type "slice", data := .fields #[vl, vu, vk] } } := by
  have hl' : s.heap.IsList l vs.toArray := hl.at fun o e => F.keep _ o e
  refine slice_list3 F N hl' pl pu pk h0 (fun h' F' N' => h _ (slicePick vs.toArray lo hi st).toList (pickNums ns lo hi st) h' F' (by rw [Array.toArray_toList]; exact N') (fun p hp => Nat.lt_succ_of_lt (Heap.lt_size (N p hp).1)) ⟨hI.pick lo hi st, length_pickNums_le hI lo hi st⟩) hs ht (by rw [List.size_toArray, hI.length, sizeLine_eq]; omega)
theorem ints_get {ws : List Value} {ms : List Int} (h : IntsAre ws ms) {i : Nat} {v : Value} (e : ws.toArray[i]? = some v) : ∃ n t, v = Value.int n t := by
  have e' : ws[i]? = some v := by simpa using e
  clear e
  induction h generalizing i with
  | nil => cases e'
  | cons a b _ ih =>
    cases i with
    | zero => cases e'; exact ⟨_, _, rfl⟩
    | succ i => exact ih (by simpa using e')
theorem sum_nonneg : ∀ {l : List Int}, (∀ x ∈ l, 0 ≤ x) → 0 ≤ l.sum
  | [], _ => by simp
  | a :: r, h => by
    have h1 := h a (.head _)
    have h2 := sum_nonneg fun x hx => h x (.tail _ hx)
    rw [List.sum_cons]; omega
theorem off1_ne {D a : Addr} {o : Obj} {l : List (Addr × Obj)} (x : Off1 D l) (h : (a, o) ∈ l) : a ≠ D := off1_mem x _ h
theorem ints3 {vs : List Value} {ns : List Int} (h : IntsAre vs ns) (hl : ns.length = 3) (hn : ∀ x ∈ ns, 0 ≤ x) : ∃ a b c t u v, vs = [Value.int a t, .int b u, .int c v] ∧ 0 ≤ a ∧ 0 ≤ b ∧ 0 ≤ c := by
  rcases h with _ | ⟨a, t, h⟩
  · cases hl
  rcases h with _ | ⟨b, u, h⟩
  · cases hl
  rcases h with _ | ⟨c, v, h⟩
  · cases hl
  rcases h with _ | ⟨d, x, h⟩
  · exact ⟨a, b, c, t, u, v, rfl, hn a (by simp), hn b (by simp), hn c (by simp)⟩
  · simp at hl
theorem news_sub {h : Heap} {l l' : List (Addr × Obj)} (N : News h₀ L h l) (hs : ∀ q ∈ l', q ∈ l) : News h₀ L h l' := fun q hq => N q (hs q hq)
end
end
section
open PySem PySem.W PyProof.Rows PySem.Calls PyProof.Rows.LCg
noncomputable def R8 (c : Nat) : Prop := c = 38 ∨ c = 60 ∨ c = 62 ∨ c = 34 ∨ c = 13 ∨ c = 10 ∨ c = 9 ∨ c = 122
section
variable {prog : Program} {w : World} {A : Around} {E : Value → Shared → Prop} {s : Shared} {h₀ : Heap} {L : Addr} {m : PySem.Str → Option Value} {news : List (Addr × Obj)} {t : Tok} {Q : Value → Shared → Prop} {value slice : PySem.Expr}
end
noncomputable def wrT : List (Nat × (List Nat → List Nat) × List Nat × List Nat × List Nat × List Nat) :=
  [(77, wr0, [38, 60, 62], [], [], []), (84, wr1, [38, 60, 62, 34, 13, 10, 9], [35, 49, 51], [35, 49, 48], [35, 48, 57]), (91, wr2, [38, 62, 34], [], [], []), (98, wr3, [38, 60, 62, 13], [35, 120, 68], [], []), (105, wr4, [38, 60, 34, 13, 10, 9], [35, 120, 68], [35, 120, 65], [35, 120, 57])]
end
section
open PySem PySem.W PyProof.Rows PySem.Calls PyProof.Rows.LCg
section
variable {p0 p1 p2 : List Nat} {w0 w1 w2 : Int}
theorem r8_lt {c : Nat} (h : R8 c) : c < 128 := by unfold R8 at h; omega
theorem spelled_lt {p : List Nat} {f : Int} (h : ∀ c ∈ p, R8 c) : ∀ c ∈ spelledL p f, c < 128 := by
  intro c hc
  unfold spelledL at hc
  split at hc
  · simp only [List.mem_append, List.mem_singleton, rep, List.mem_flatMap] at hc
    rcases hc with (rfl | ⟨k, hk, hc⟩) | rfl
    · omega
    · split at hc
      · simp only [List.mem_cons, List.not_mem_nil, or_false] at hc; omega
      · rw [List.mem_singleton.mp hc]; exact r8_lt (h k hk)
    · omega
  · simp only [List.mem_flatMap] at hc
    obtain ⟨k, hk, hc⟩ := hc
    simp only [List.mem_cons, List.not_mem_nil, or_false] at hc
    rcases hc with rfl | rfl
    · omega
    · exact r8_lt (h _ hk)
theorem suf_all {a b : List Nat} {q : Nat → Bool} (h : a <:+ b) (hb : b.all q = true) : a.all q = true := by
  rw [List.all_eq_true] at hb ⊢
  exact fun c hc => hb c (h.mem hc)
end
theorem con_own {h₀ h h' : Heap} {L : Addr} {own pre post : List (Addr × Obj)} (N : News h₀ L h own) (K : KeptBut (pre.map (·.1)) h h') (N' : News h₀ L h' post) (hd : ∀ p ∈ own, p.1 ∉ pre.map (·.1)) : News h₀ L h' (own ++ post) := by
  intro q hq
  rcases List.mem_append.mp hq with hq | hq
  · exact ⟨K _ _ (N q hq).1 (hd q hq), (N q hq).2⟩
  · exact N' q hq
theorem rdr_ge {l P r ln tl pb kp lf kl} (ok : RP.Ok r) : ∀ a ∈ (rdr l P r ln tl pb kp lf kl).map (·.1), @LE.le Nat _ r.aC a := by
  obtain ⟨hd1, hd2, hd3, o1, o2, o3, o4, o5, o6, o7, o8, o9⟩ := ok
  intro a ha
  simp only [rdr, rdr7, List.map_cons, List.map_nil, List.mem_cons, List.not_mem_nil, or_false] at ha
  rcases ha with rfl | rfl | rfl | rfl | rfl | rfl | rfl | rfl | rfl | rfl <;> omega
theorem rdr_le2 {l P r ln tl pb kp lf kl} (ok : RP.Ok r) : ∀ a ∈ (rdr l P r ln tl pb kp lf kl).map (·.1), @LE.le Nat _ a r.aP := by
  obtain ⟨hd1, hd2, hd3, o1, o2, o3, o4, o5, o6, o7, o8, o9⟩ := ok
  intro a ha
  simp only [rdr, rdr7, List.map_cons, List.map_nil, List.mem_cons, List.not_mem_nil, or_false] at ha
  rcases ha with rfl | rfl | rfl | rfl | rfl | rfl | rfl | rfl | rfl | rfl <;> omega
theorem notin_lt {l P r ln tl pb kp lf kl} (ok : RP.Ok r) {a : Addr} (h : @LT.lt Nat _ a r.aC) : a ∉ (rdr l P r ln tl pb kp lf kl).map (·.1) := fun hm => absurd (rdr_ge ok a hm) (Nat.not_le.mpr h)
theorem notin_gt {l P r ln tl pb kp lf kl} (ok : RP.Ok r) {a : Addr} (h : @LT.lt Nat _ r.aP a) : a ∉ (rdr l P r ln tl pb kp lf kl).map (·.1) := fun hm => absurd (rdr_le2 ok a hm) (Nat.not_le.mpr h)
theorem notin_off {l P r ln tl pb kp lf kl} {a : Addr} (h : ∀ q ∈ rdr l P r ln tl pb kp lf kl, q.1 ≠ a) : a ∉ (rdr l P r ln tl pb kp lf kl).map (·.1) := fun hm => by
  obtain ⟨q, hq, e⟩ := List.mem_map.mp hm
  exact h q hq e
theorem take_next {α : Type} {l : List α} {d : α} {i : Nat} (h : i < l.length) : l.take (i + 1) = l.take i ++ [l.getD i d] := by
  rw [List.take_add_one, List.getElem?_eq_getElem h, List.getD_eq_getElem?_getD, List.getElem?_eq_getElem h]; rfl
section
variable {prog : Program} {w : World} {A : Around} {E : Value → Shared → Prop} {s : Shared} {h₀ : Heap} {L : Addr} {m : PySem.Str → Option Value} {env : Env}
theorem rest_indT {ct elt : PySem.Expr} {x : PySem.Str} {scope : Scope} {cl : List (PySem.Str × Addr)} {Sx : List (Addr × Obj) → Prop} {P : Nat → Value → Prop} {Fin : List Value → List (Addr × Obj) → Prop} {n : Nat} {J : Nat → List Value → List (Addr × Obj) → Prop}
    (step : ∀ i v ys news I oI C oC D m₂ h tk (E' : Value → Shared → Prop), i < n → P i v → J i ys news → LCg.NsObj oC m₂ → m₂ x = some v → Fr h₀ L h m → News h₀ L h ((I, oI) :: (C, oC) :: (D, LCg.lst ys) :: news) → LCg.Off3 I C D news → ((@Ne Nat I C) ∧ (@Ne Nat I D) ∧ (@Ne Nat C D)) →
      wpAny (model prog w) A (isTrue ct (compEnvC scope cl C env) (eval ct (compEnvC scope cl C env))) (fun ok s' => if ok = true then
        wpAny (model prog w) A (eval elt (compEnvC scope cl C env)) (LCg.CompEnd h₀ L m { s with heap := h, toks := tk } I oI C oC D (LCg.lst ys) Sx (fun y news' => J (i + 1) (ys ++ [y]) news')) E' s'
        else LCg.CompEnd h₀ L m { s with heap := h, toks := tk } I oI C oC D (LCg.lst ys) Sx (fun _ news' => J (i + 1) ys news') Value.none s') E' { s with heap := h, toks := tk })
    (fin : ∀ ys news, J n ys news → Fin ys news) : ∀ k i ys news, i + k = n → J i ys news → LCt.CompRestT prog w A h₀ L m env ct elt x scope cl s Sx P Fin k i ys news
  | 0, i, ys, news, hn, hJ => by
    have : i = n := by omega
    subst this
    exact LCt.CompRestT.zero (fin _ _ hJ)
  | k + 1, i, ys, news, hn, hJ => by
    refine LCt.CompRestT.succ fun v I oI C oC D m₂ h tk E' hP hC hx F N off ne => ?_
    refine wpAny_mono (step i v ys news I oI C oC D m₂ h tk E' (by omega) hP hJ hC hx F N off ne) (fun ok s₂ e => ?_) fun _ _ e => e
    cases ok with
    | true =>
      simp only [if_true] at e ⊢
      refine wpAny_mono e (fun y s₃ e => ?_) fun _ _ e => e
      obtain ⟨h', tk', news', rfl, F', N', off', hS, hJ'⟩ := e
      exact ⟨h', tk', news', rfl, F', N', off', hS, rest_indT step fin k (i + 1) (ys ++ [y]) news' (by omega) hJ'⟩
    | false =>
      simp only [Bool.false_eq_true, if_false] at e ⊢
      obtain ⟨h', tk', news', rfl, F', N', off', hS, hJ'⟩ := e
      exact ⟨h', tk', news', rfl, F', N', off', hS, rest_indT step fin k (i + 1) ys news' (by omega) hJ'⟩
end
theorem S_count (x : List Nat) (c : Nat) : Txt.count (S x) (S [c]) = ((x.count c : Nat) : Int) := by
  have e : Txt.count (S x) (S [c]) = PyProof.Rows.cnt c (S x).cps.toList := PyProof.Rows.count_is (S x) c
  rw [e, S_cps]
  clear e
  induction x with
  | nil => rfl
  | cons a r ih =>
    rw [PyProof.Rows.cnt_cons, ih, List.count_cons]
    by_cases h : a = c
    · simp [h]; omega
    · simp [h]
section
variable {prog : Program} {w : World} {A : Around} {E : Value → Shared → Prop} {s : Shared} {t u : Tok} {Q : Value → Shared → Prop}
theorem r_count {x : List Nat} {y : PySem.Str} {c : Nat} (hy : y = S [c]) (h : ∀ t' k, Q (.int ((x.count c : Nat) : Int) t') { s with toks := k }) : wpAny (model prog w) A (call (.builtin "str.count") [.str (S x) t, .str y u]) Q E s := by
  subst hy
  exact SC.count (by rw [S_count]; exact h _ _)
theorem r_ne_same {a b : Addr} {xs ys : List Value} {ns : List (List Nat)} (ha : s.heap.IsList a xs.toArray) (hb : s.heap.IsList b ys.toArray) (hi : StrsAre xs ns) (hj : StrsAre ys ns) (o1 : Ok8 ns) (hu : A.units + 64 < cLine) (h : Q (.bool false) s) :
    wpAny (model prog w) A (compareOp .NotEq (.ref a) (.ref b)) Q E s :=
  r_ne_strs ha hb hi hj o1 o1 hu (by rw [decide_eq_true rfl]; exact h)
theorem r_neS {x y : PySem.Str} {b : Bool} (e : (!(x == y)) = b) (h : Q (.bool b) s) : wpAny (model prog w) A (compareOp .NotEq (.str x t) (.str y u)) Q E s := by
  subst e
  refine PyProof.Rows.ne_str ?_
  exact h
theorem r_neI {a b : Int} (e : a = b) (h : Q (.bool false) s) : wpAny (model prog w) A (compareOp .NotEq (.int a t) (.int b u)) Q E s := by
  subst e
  refine PyProof.Rows.ne_int ?_
  simpa using h
end
theorem keep_same {h₀ h h' : Heap} {L G : Addr} {o : Obj} {l : List (Addr × Obj)} (N : News h₀ L h l) (hm : (G, o) ∈ l) (K : KeptBut ([(G, o)].map (·.1)) h h') (N' : News h₀ L h' [(G, o)]) : News h₀ L h' l := by
  intro q hq
  by_cases e : q.1 ∈ [G]
  · have e1 : q.1 = G := List.mem_singleton.mp e
    refine ⟨?_, (N q hq).2⟩
    have h1 := (N' _ (.head _)).1
    have h2 := (N (G, o) hm).1
    have h3 := (N q hq).1
    dsimp only at h1 h2
    rw [e1] at h3 ⊢
    rw [h2] at h3
    exact h1.trans h3
  · exact ⟨K _ _ (N q hq).1 e, (N q hq).2⟩
end
section
open PySem PySem.W PyProof.Rows PySem.Calls PyProof.Rows.LCg
section
variable {prog : Program} {w : World} {A : Around} {E : Value → Shared → Prop} {s : Shared} {h₀ : Heap}
noncomputable def TurnA (prog : Program) (w : World) (A : Around) (env : Env) (target : PySem.Expr) (body : List Stmt) (Q : Flow → Shared → Prop) (E : Value → Shared → Prop) (I : Nat → Shared → Prop) (n : Nat) (it : Value) (r : Option Value) (s₁ : Shared) : Prop :=
  match r with
  | none => Q .next s₁
  | some v => wpAny (model prog w) A (letOwnedTupleGo target it v) (fun _ s₁' => wpAny (model prog w) A (assign target env v) (fun _ s₂ =>
      wpAny (model prog w) A (execs body env) (fun f s₃ => match f with | .next | .cont => Again I n s₃ | .brk => Q .next s₃ | .ret v => Q (.ret v) s₃) E s₂) E s₁') E s₁
noncomputable def LoopA (prog : Program) (w : World) (A : Around) (env : Env) (target : PySem.Expr) (body : List Stmt) (Q : Flow → Shared → Prop) (E : Value → Shared → Prop) (it : Value) (s₂ : Shared) : Prop :=
  ∃ (I : Nat → Shared → Prop) (n : Nat), I n s₂ ∧ ∀ n s, I n s → wpAny (model prog w) A (pyNext it) (TurnA prog w A env target body Q E I n it) E s
theorem For_ownA {env : Env} {Q : Flow → Shared → Prop} {target : PySem.Expr} {pos : Pos} {iter : PySem.Expr} {body : List Stmt}
    (h : wpAny (model prog w) A (eval iter env) (fun xv s₁ => wpAny (model prog w) A (pyIter xv) (fun it s₂ => LoopA prog w A env target body Q E it s₂) E s₁) E s)
    (hs : ∀ x, foldedSetIterable iter env x = pure x := by intro _; rfl)
    (hE : PassesOwn (model prog w) A env E := by passes_own) :
    wpAny (model prog w) A (exec (.For target iter body [] pos) env) Q E s := by
  refine wpAny_For (wpAny_mono h (fun xv s₁ h₁ => wpAny_mono h₁ (fun it s₂ h₂ => ?_) fun _ _ e => e) fun _ _ e => e) hs
  obtain ⟨I, n, hI, turn⟩ := h₂
  refine codeAny_forLoop_any (R := fun r s' => match r with | .ok f => Q f s' | .error e => cameBackBy (model prog w) A env E e s') I (fun n s hI => ?_) n hI
  refine wpAny_mono (wpAny_passesOwn hE (turn n s hI)) (fun r s₁ h₁ => ?_) fun _ _ e => e
  cases r with
  | none => exact wpAny_execs_nil h₁
  | some v =>
    refine wpAny_mono (wpAny_passesOwn hE h₁) (fun _ s₁' h₁' => ?_) fun _ _ e => e
    refine wpAny_mono (wpAny_passesOwn hE h₁') (fun _ s₂ h₂ => ?_) fun _ _ e => e
    refine wpAny_mono (wpAny_passesOwn hE h₂) (fun f s₃ h₃ => ?_) fun _ _ e => e
    cases f <;> exact h₃
end
theorem head_addr {h₀ h : Heap} {L D : Addr} {o : Obj} {l : List (Addr × Obj)} (_N : News h₀ L h ((D, o) :: l)) : ∃ D' : Addr, D' = D := ⟨D, rfl⟩
section
variable {prog : Program} {w : World} {A : Around} {E : Value → Shared → Prop} {s : Shared} {Q : Value → Shared → Prop}
end
theorem tail_ne {tl : List (Addr × Obj)} {D c : Addr} (h : ∀ p ∈ tl, @LT.lt Nat _ D p.1) (hc : @LE.le Nat _ c D) : ∀ p ∈ tl, p.1 ≠ c := fun p hp e => by
  have h1 := h p hp
  have h2 : @LT.lt Nat _ D c := e ▸ h1
  exact absurd h2 (Nat.not_lt.mpr hc)
theorem con_own3 {h₀ h h' : Heap} {L : Addr} {A B pre post : List (Addr × Obj)} (N : News h₀ L h (A ++ (pre ++ B))) (K : KeptBut (pre.map (·.1)) h h') (N' : News h₀ L h' post) (hA : ∀ p ∈ A, p.1 ∉ pre.map (·.1)) (hB : ∀ p ∈ B, p.1 ∉ pre.map (·.1)) : News h₀ L h' (A ++ (post ++ B)) := by
  intro q hq
  rcases List.mem_append.mp hq with hq | hq
  · have := N q (List.mem_append_left _ hq)
    exact ⟨K _ _ this.1 (hA q hq), this.2⟩
  · rcases List.mem_append.mp hq with hq | hq
    · exact N' q hq
    · have := N q (List.mem_append_right _ (List.mem_append_right _ hq))
      exact ⟨K _ _ this.1 (hB q hq), this.2⟩
theorem name_obj {o : Obj} {x : Data} (_d : o.data = x) : ∃ o' : Obj, o' = o := ⟨o, rfl⟩
theorem allNe_off {D : Addr} : ∀ {l : List (Addr × Obj)}, AllNe D l → Off1 D l
  | [], _ => trivial
  | _ :: _, h => ⟨h.1, allNe_off h.2⟩
end
section
open PySem PySem.W PyProof.Rows PySem.Calls
section
variable {prog : Program} {w : World} {A : Around} {E : Value → Shared → Prop} {s : Shared} {h₀ : Heap} {L : Addr} {m : PySem.Str → Option Value} {env : Env}
end
end
section

end
section

end
section

end
section
open PySem
end
section
open PySem PySem.W PyProof.Rows PySem.Calls
section
variable {prog : Program} {w : World} {A : Around} {E : Value → Shared → Prop} {s : Shared} {h₀ : Heap} {L : Addr} {m : PySem.Str → Option Value} {news : List (Addr × Obj)}
end
end
section
open PySem PySem.W PyProof.Rows
noncomputable def subB : List Nat → List Nat → Bool
  | [], _ => true
  | _ :: _, [] => false
  | c :: w, d :: t => if c = d then subB w t else subB (c :: w) t
theorem subB_nil (t : List Nat) : subB [] t = true := by cases t <;> rfl
theorem subB_iff : ∀ (w t : List Nat), subB w t = true ↔ w.Sublist t
  | [], t => by rw [subB_nil]; exact ⟨fun _ => List.nil_sublist _, fun _ => rfl⟩
  | c :: w, [] => by
    constructor
    · intro h; cases h
    · intro h; cases h
  | c :: w, d :: t => by
    show (if c = d then subB w t else subB (c :: w) t) = true ↔ _
    by_cases h : c = d
    · rw [if_pos h, subB_iff w t, h]
      exact List.cons_sublist_cons.symm
    · rw [if_neg h, subB_iff (c :: w) t]
      exact ⟨fun q => q.cons _, fun q => by
        cases q with
        | cons _ q => exact q
        | cons_cons => exact absurd rfl h⟩
theorem subB_hit {c k : Nat} {w : List Nat} : ∀ {t : List Nat} {i : Nat}, i ≤ k → t[k]? = some c → (∀ j, i ≤ j → j < k → t[j]? ≠ some c) → subB (c :: w) (t.drop i) = subB w (t.drop (k + 1))
  | [], i, _, h, _ => by simp at h
  | d :: t, 0, hik, h, hn => by
    cases k with
    | zero =>
      have e : d = c := by simpa using h
      show (if c = d then subB w t else subB (c :: w) t) = _
      rw [if_pos e.symm]; rfl
    | succ k =>
      have hd : d ≠ c := fun e => hn 0 (Nat.le_refl _) (Nat.succ_pos _) (by rw [e]; rfl)
      show (if c = d then subB w t else subB (c :: w) t) = _
      rw [if_neg (fun e => hd e.symm)]
      have := subB_hit (w := w) (t := t) (i := 0) (k := k) (Nat.zero_le _) (by simpa using h) (fun j _ hj => by simpa using hn (j + 1) (Nat.zero_le _) (by omega))
      simpa using this
  | d :: t, i + 1, hik, h, hn => by
    obtain ⟨k, rfl⟩ : ∃ k', k = k' + 1 := ⟨k - 1, by omega⟩
    have := subB_hit (w := w) (t := t) (i := i) (k := k) (by omega) (by simpa using h) (fun j hj hj2 => by simpa using hn (j + 1) (by omega) (by omega))
    simpa using this
theorem subB_miss {c : Nat} {w : List Nat} : ∀ {t : List Nat} {i : Nat}, (∀ j, i ≤ j → t[j]? ≠ some c) → subB (c :: w) (t.drop i) = false
  | [], i, _ => by rw [List.drop_nil]; rfl
  | d :: t, 0, hn => by
    have hd : d ≠ c := fun e => hn 0 (Nat.le_refl _) (by rw [e]; rfl)
    show (if c = d then subB w t else subB (c :: w) t) = _
    rw [if_neg (fun e => hd e.symm)]
    have := subB_miss (w := w) (t := t) (i := 0) (fun j _ => by simpa using hn (j + 1) (Nat.zero_le _))
    simpa using this
  | d :: t, i + 1, hn => by
    have := subB_miss (w := w) (t := t) (i := i) (fun j hj => by simpa using hn (j + 1) (by omega))
    simpa using this
theorem drop_cons {a : List Nat} {i c : Nat} (h1 : 1 ≤ i) (h : a[i - 1]? = some c) : a.drop (i - 1) = c :: a.drop i := by
  obtain ⟨h2, h3⟩ := List.getElem?_eq_some_iff.mp h
  rw [List.drop_eq_getElem_cons h2, h3, show i - 1 + 1 = i by omega]
noncomputable def partsW (w : List Nat) : List (List Nat) := [] :: (w.map (fun c => [c]) ++ [[]])
noncomputable def formW (w : List Nat) : List Nat := glue (partsW w)
theorem partsW_free {w : List Nat} (h : 46 ∉ w) : ∀ p ∈ partsW w, 46 ∉ p := by
  intro p hp
  unfold partsW at hp
  rcases List.mem_cons.mp hp with rfl | hp
  · simp
  · rcases List.mem_append.mp hp with hp | hp
    · obtain ⟨c, hc, rfl⟩ := List.mem_map.mp hp
      intro q
      rw [List.mem_singleton] at q
      exact h (q ▸ hc)
    · rw [List.mem_singleton.mp hp]; simp
theorem partsW_len (w : List Nat) : (partsW w).length = w.length + 2 := by simp [partsW]
theorem partsW_get {w : List Nat} {i : Nat} {p : List Nat} (h : (partsW w)[i]? = some p) : (i = 0 ∧ p = []) ∨ (∃ c, 1 ≤ i ∧ w[i - 1]? = some c ∧ p = [c]) ∨ (i = w.length + 1 ∧ p = []) := by
  unfold partsW at h
  cases i with
  | zero => left; exact ⟨rfl, by simpa using h.symm⟩
  | succ i =>
    right
    rw [List.getElem?_cons_succ] at h
    by_cases hi : i < w.length
    · left
      rw [List.getElem?_append_left (by simpa using hi), List.getElem?_map] at h
      cases hc : w[i]? with
      | none => rw [hc] at h; cases h
      | some c => rw [hc] at h; exact ⟨c, by omega, by simpa using hc, by simpa using h.symm⟩
    · right
      rw [List.getElem?_append_right (by simpa using hi)] at h
      simp only [List.length_map] at h
      have : i - w.length = 0 := by
        cases e : i - w.length with
        | zero => rfl
        | succ n => rw [e] at h; simp at h
      rw [this] at h
      exact ⟨by omega, by simpa using h.symm⟩
theorem glue_len : ∀ l : List (List Nat), (glue l).length ≤ (l.map List.length).sum + 3 * l.length
  | [] => by simp [glue]
  | [p] => by simp [glue]
  | p :: q :: r => by
    have := glue_len (q :: r)
    simp only [glue, List.length_append, List.map_cons, List.sum_cons, List.length_cons, dots, List.length_nil] at this ⊢
    omega
theorem formW_len (w : List Nat) : (formW w).length ≤ 4 * w.length + 6 := by
  have := glue_len (partsW w)
  have e : ((partsW w).map List.length).sum = w.length := by
    unfold partsW
    rw [List.map_cons, List.map_append, List.map_map, List.sum_cons, List.sum_append]
    have : (w.map (List.length ∘ fun c => [c])).sum = w.length := by
      clear this
      induction w with
      | nil => rfl
      | cons a r ih => simp at ih ⊢; omega
    rw [this]; simp
  rw [e, partsW_len] at this
  unfold formW; omega
section
variable {prog : Program} {w : World} {A : Around} {E : Value → Shared → Prop} {s : Shared} {h₀ : Heap} {L : Addr} {m : PySem.Str → Option Value} {news : List (Addr × Obj)} {x y : PySem.Str} {t u v r : Tok} {Q : Value → Shared → Prop}
theorem at_one {t : List Nat} {c hi i : Nat} (hh : hi = t.length) : StrLaws.At (S t) (S [c]) hi i ↔ t[i]? = some c := by
  unfold StrLaws.At
  rw [StrLaws.subAt_eq, S_cps, S_cps, S_len]
  subst hh
  rw [beq_iff_eq]
  constructor
  · rintro ⟨h1, h2⟩
    have h3 : i < t.length := by simp at h1; omega
    rw [List.getElem?_eq_getElem h3]
    rw [List.drop_eq_getElem_cons h3] at h2
    have h4 : [t[i]] = [c] := h2
    rw [List.singleton_inj.mp h4]
  · intro h
    obtain ⟨h3, h4⟩ := List.getElem?_eq_some_iff.mp h
    refine ⟨by simp; omega, ?_⟩
    rw [List.drop_eq_getElem_cons h3]
    simp [h4]
theorem r_find1 {a : List Nat} {c : Nat} {i j : Int} (h0 : 0 ≤ i) (h1 : i ≤ a.length) (hj : j = a.length)
    (hno : (∀ k, i.toNat ≤ k → a[k]? ≠ some c) → Q (.int (-1) s.toks) { s with toks := s.toks + 1 })
    (hyes : ∀ k : Nat, i.toNat ≤ k → a[k]? = some c → (∀ k', i.toNat ≤ k' → k' < k → a[k']? ≠ some c) → Q (.int (k : Int) s.toks) { s with toks := s.toks + 1 }) :
    wpAny (model prog w) A (call (.builtin "str.find") [.str (S a) t, .str (S [c]) u, .int i v, .int j r]) Q E s := by
  refine call_gives F.slot_str_find (typeIs_str _ _ _) F.entry_str_find (F.args_str_find_4 _ _ _ _) (gives_find4 _ _ i j t u v r) ?_
  have e1 : fromIndex (S a).length i = i.toNat := by unfold fromIndex; rw [if_neg (by omega)]; omega
  have e2 : min (fromIndex (S a).length j) (S a).length = a.length := by unfold fromIndex; rw [if_neg (by omega), S_len]; omega
  rw [e1, e2, StrLaws.occ_eq]
  have hat : ∀ k, StrLaws.At (S a) (S [c]) a.length k ↔ a[k]? = some c := fun k => at_one rfl
  rcases StrLaws.occ_first (S a) (S [c]) a.length 1 (Nat.le_refl _) (List.range' i.toNat (a.length + 1 - i.toNat)) i.toNat (fun k hk => (List.mem_range'_1.mp hk).1) with ⟨q1, q2⟩ | ⟨pre, k, post, q0, q1, q2, q3⟩
  · rw [q1]
    refine hno fun k hk hc => ?_
    have hlt : k < a.length := (List.getElem?_eq_some_iff.mp hc).1
    exact q2 k (List.mem_range'_1.mpr ⟨hk, by omega⟩) ((hat k).mpr hc)
  · have hs : ∃ rest, (forIn (List.range' i.toNat (a.length + 1 - i.toNat)) ((#[] : Array Nat), i.toNat) (StrLaws.occBody (S a) (S [c]) a.length 1)).run.fst.toList = k :: rest := by
      generalize (forIn (List.range' i.toNat (a.length + 1 - i.toNat)) ((#[] : Array Nat), i.toNat) (StrLaws.occBody (S a) (S [c]) a.length 1)).run.fst = arr at q1
      obtain ⟨l⟩ := arr
      cases l with
      | nil => simp at q1
      | cons b rest => simp at q1; exact ⟨rest, by rw [q1]⟩
    obtain ⟨rest, hs⟩ := hs
    rw [hs]
    have hmem : k ∈ List.range' i.toNat (a.length + 1 - i.toNat) := by rw [q0]; simp
    refine hyes k (List.mem_range'_1.mp hmem).1 ((hat k).mp q2) fun k' hk1 hk2 hc => ?_
    have hm2 : k' ∈ pre := by
      have hsort : (pre ++ k :: post).Pairwise (· < ·) := by rw [← q0]; exact List.pairwise_lt_range'
      have hm : k' ∈ pre ++ k :: post := by
        rw [← q0, List.mem_range'_1]
        have := (List.mem_range'_1.mp hmem).2
        omega
      rcases List.mem_append.mp hm with hm | hm
      · exact hm
      · exfalso
        rcases List.mem_cons.mp hm with e | hm
        · omega
        · have := (List.pairwise_cons.mp (List.pairwise_append.mp hsort).2.1).1 k' hm
          omega
    exact q3 k' hm2 ((hat k').mpr hc)
theorem kspl_strs : ∀ {l : List (PySem.Str × Tok)} {ps : List (List Nat)}, l.map (·.1) = ps.map S → ∃ vs, strValues l = vs ∧ vs.length = ps.length ∧ ∀ (i : Nat) p, ps[i]? = some p → ∃ tt, vs[i]? = some (Value.str (S p) tt)
  | [], [], _ => ⟨[], rfl, rfl, fun i p h => by simp at h⟩
  | [], _ :: _, h => by simp at h
  | _ :: _, [], h => by simp at h
  | (x, tx) :: l, p :: ps, h => by
    simp only [List.map_cons, List.cons.injEq] at h
    obtain ⟨vs, e1, e2, e3⟩ := kspl_strs h.2
    refine ⟨Value.str x tx :: vs, by rw [← e1]; rfl, by simp [e2], fun i q hq => ?_⟩
    cases i with
    | zero => cases hq; exact ⟨tx, by rw [← h.1]; rfl⟩
    | succ i => exact e3 i q (by simpa using hq)
theorem r_splitW {a : List Nat} (F : Fr h₀ L s.heap m) (N : News h₀ L s.heap news) (hy : y = S dots) (ha : 46 ∉ a) (hl : a.length ≤ 100000)
    (h : ∀ (D : Addr) (vs : List Value) (h' : Heap) (k : Nat), vs.length = a.length + 2 → (∀ (i : Nat) p, (partsW a)[i]? = some p → ∃ tt, vs[i]? = some (Value.str (S p) tt)) → Fr h₀ L h' m → News h₀ L h' ((D, listOf vs.toArray 0) :: news) → (∀ p ∈ news, p.1 < D) → Q (.ref D) { s with heap := h', toks := k }) :
    wpAny (model prog w) A (call (.builtin "str.split") [.str (S (formW a)) t, .str y u]) Q E s := by
  subst hy
  refine KSpl.split1 F N rfl (fun D l h' k e1 _ F' N' lt => ?_) (by have := formW_len a; rw [S_len, sizeLine_eq]; omega)
  rw [formW, S_split _ (by simp [partsW]) (partsW_free ha)] at e1
  obtain ⟨vs, e2, e3, e4⟩ := kspl_strs e1
  rw [e2] at N'
  exact h D vs h' k (by rw [e3, partsW_len]) e4 F' N' lt
end
end
section
open PySem PySem.W PyProof.Rows PySem.Calls
theorem formW_cut (a : List Nat) : ∃ r, formW a = [] ++ dots ++ r := by
  unfold formW partsW
  cases h : (a.map (fun c => [c]) ++ [[]]) with
  | nil => simp at h
  | cons q r => exact ⟨glue (q :: r), rfl⟩
theorem partsW_last (a : List Nat) : (partsW a)[a.length + 1]? = some [] := by
  unfold partsW
  rw [List.getElem?_cons_succ, List.getElem?_append_right (by simp)]
  simp
theorem parts_end {vs : List Value} {n : Nat} {x : Value} (h : vs.length = n + 2) (hx : vs[n + 1]? = some x) : vs[vs.length - 1]? = some x := by
  rw [h]; exact hx
section
variable {prog : Program} {w : World} {A : Around} {E : Value → Shared → Prop} {s : Shared} {h₀ : Heap} {L : Addr} {m : PySem.Str → Option Value} {news : List (Addr × Obj)} {Q : Value → Shared → Prop} {t u : Tok}
theorem r_notinW {a : List Nat} {y : PySem.Str} (hy : y = S dots) (h : Q (.bool false) s) : wpAny (model prog w) A (compareOp .NotIn (.str y u) (.str (S (formW a)) t)) Q E s := by
  obtain ⟨r, e⟩ := formW_cut a
  rw [e]
  exact r_notin_dots hy h
theorem r_itemL {l : Addr} {vs : List Value} {i : Nat} {x : Value} {value slice : PySem.Expr} (hl : s.heap.IsList l vs.toArray) (hx : vs[i]? = some x) (hi : i ≤ 1000) (h : Q x s)
    (hs : subscripted slice false (.ref l) (.int (i : Int) u) = operate [.ref l, .int (i : Int) u] (getItem (.ref l) (.int (i : Int) u)) := by with_unfolding_all rfl) :
    wpAny (model prog w) A (subscriptTail value slice (.ref l) (.int (i : Int) u)) Q E s :=
  tail_any hl.typeIs slot_list_getitem.lookup (wpAny_getItem_list hl (by omega) (by omega) (x := x) (by simpa using hx) h) hs
theorem r_itemM1 {l : Addr} {vs : List Value} {x : Value} {value slice : PySem.Expr} (hl : s.heap.IsList l vs.toArray) (h1 : 1 ≤ vs.length) (hx : vs[vs.length - 1]? = some x) (h : Q x s)
    (hs : subscripted slice false (.ref l) (.int (-1) u) = operate [.ref l, .int (-1) u] (getItem (.ref l) (.int (-1) u)) := by with_unfolding_all rfl) :
    wpAny (model prog w) A (subscriptTail value slice (.ref l) (.int (-1) u)) Q E s := by
  refine tail_any hl.typeIs slot_list_getitem.lookup (wpAny_getItem_list_neg hl (by decide) (by rw [List.size_toArray]; omega) (by decide) (x := x) ?_ h) hs
  have ei : ((-1 : Int) + (vs.toArray.size : Nat)).toNat = vs.length - 1 := by rw [List.size_toArray]; omega
  rw [ei]
  simpa using hx
theorem r_lenL {l : Addr} {vs : List Value} {n : Nat} (hl : s.heap.IsList l vs.toArray) (e : vs.length = n) (hn : n ≤ 1000000) (h : ∀ t k, Q (.int (n : Int) t) { s with toks := k }) : wpAny (model prog w) A (call (.builtin "len") [.ref l]) Q E s := by
  have e' : vs.toArray.size = n := by rw [List.size_toArray, e]
  refine Calls.call_len_list hl ?_ ?_
  · first | (rw [e']; exact fitsSsize_of (N := 9223372036854775808) (by omega) (by omega) (Int.le_refl _)) | (rw [e']; omega)
  · rw [e']; exact h _ _
end
end
section
open PySem PySem.W PyProof.Rows PySem.Calls PyProof.Rows.LCg
section
variable {prog : Program} {w : World} {A : Around} {E : Value → Shared → Prop} {s : Shared} {h₀ : Heap}
noncomputable def EndL (h₀ : Heap) (L : Addr) (s : Shared) (It : Addr) (oI : Obj) (J : (PySem.Str → Option Value) → List (Addr × Obj) → Prop) (s' : Shared) : Prop :=
  ∃ (h' : Heap) (tk' : Nat) (m' : PySem.Str → Option Value) (news' : List (Addr × Obj)), s' = { s with heap := h', toks := tk' } ∧ Fr h₀ L h' m' ∧ News h₀ L h' ((It, oI) :: news') ∧ Off1 It news' ∧ J m' news'
theorem EndL.intro {L : Addr} {It : Addr} {oI : Obj} {J : (PySem.Str → Option Value) → List (Addr × Obj) → Prop} {h' : Heap} {tk' : Nat} {m' : PySem.Str → Option Value} {all : List (Addr × Obj)} (F : Fr h₀ L h' m') (N : News h₀ L h' all) (news' : List (Addr × Obj)) (hs : ∀ q ∈ (It, oI) :: news', q ∈ all) (o : Off1 It news') (hJ : J m' news') :
    EndL h₀ L s It oI J { s with heap := h', toks := tk' } := ⟨h', tk', m', news', rfl, F, fun q hq => N q (hs q hq), o, hJ⟩
noncomputable def TurnL (prog : Program) (w : World) (A : Around) (env : Env) (h₀ : Heap) (body : List Stmt) (Q : Flow → Shared → Prop) (E : Value → Shared → Prop) (s : Shared) (It : Addr) (oI : Obj) (J : (PySem.Str → Option Value) → List (Addr × Obj) → Prop) (s₁ : Shared) : Prop :=
  wpAny (model prog w) A (execs body env) (fun f s₃ => match f with | .next | .cont => EndL h₀ env.locals s It oI J s₃ | .brk => Q .next s₃ | .ret v => Q (.ret v) s₃) E s₁
theorem loopL {env : Env} {x : PySem.Str} {body : List Stmt} {Q : Flow → Shared → Prop} {D : Addr} {vs : List Value} {k : Nat} {m0 : PySem.Str → Option Value} {news0 : List (Addr × Obj)} (J : Nat → (PySem.Str → Option Value) → List (Addr × Obj) → Prop)
    (hh : A.handled = none) (F : Fr h₀ env.locals s.heap m0) (N : News h₀ env.locals s.heap news0) (hD : (D, listOf vs.toArray k) ∈ news0) (hJD : ∀ i m news, J i m news → (D, listOf vs.toArray k) ∈ news) (h0 : J 0 m0 news0)
    (turn : ∀ i v m news It oI h tk, i < vs.length → vs[i]? = some v → J i m news → Off1 It news → (∀ p ∈ news0, @LT.lt Nat _ p.1 It) → Fr h₀ env.locals h (fun y => if y = x then some v else m y) → News h₀ env.locals h ((It, oI) :: news) →
      TurnL prog w A env h₀ body Q E s It oI (J (i + 1)) { s with heap := h, toks := tk })
    (done : ∀ m news h tk, J vs.length m news → Fr h₀ env.locals h m → News h₀ env.locals h news → Q .next { s with heap := h, toks := tk }) :
    wpAny (model prog w) A (pyIter (.ref D)) (fun it s₂ => LoopOwn prog w A env h₀ x body Q E it s₂) E s := by
  refine wpAny_pyIter_list ⟨_, (N _ hD).1, rfl, _, rfl⟩ ?_
  have N2 := News.push F N { cls := .type "list_iterator", data := .fields #[.ref D, .int 0 0] }
  have F2 := Fr.push F { cls := .type "list_iterator", data := .fields #[.ref D, .int 0 0] }
  have li := fun q hq => Heap.lt_size (N q hq).1
  generalize hIt : s.heap.objs.size = It at *
  refine ⟨fun n z => ∃ (h : Heap) (tk i : Nat) (oI : Obj) (m : PySem.Str → Option Value) (news : List (Addr × Obj)), z = { s with heap := h, toks := tk } ∧ i ≤ vs.length ∧ n = vs.length - i ∧ oI.cls = .type "list_iterator" ∧ oI.data = .fields #[.ref D, .int ((i : Nat) : Int) 0] ∧ J i m news ∧ Fr h₀ env.locals h m ∧ Off1 It news ∧ News h₀ env.locals h ((It, oI) :: news),
    vs.length, ⟨_, _, 0, _, m0, news0, rfl, Nat.zero_le _, rfl, rfl, rfl, h0, F2, off1_of fun q hq => Nat.ne_of_lt (li q hq), N2⟩, ?_⟩
  rintro n z ⟨h3, tk3, i, oI, m3, news3, rfl, hi, rfl, hc, hd, hJ, F3, off, N3⟩
  have hit : h3.IsListIter It D i := ⟨oI, (N3 _ (.head _)).1, hc, hd⟩
  have hls : h3.IsList D vs.toArray := ⟨_, (N3 _ (.tail _ (hJD _ _ _ hJ))).1, rfl, _, rfl⟩
  have zI := N3 _ (.head _)
  by_cases hil : i < vs.length
  · refine wpAny_pyNext_list_item hit hls (x := vs[i]) (by simp [hil]) fun h4 hit4 hs4 => ?_
    obtain ⟨oJ, j1, j2, j3⟩ := hit4
    refine ⟨m3, F3.change hs4 zI.2.1 zI.2.2, fun h5 F5 hN5 => ?_⟩
    have N4 : News h₀ env.locals h4 ((It, oJ) :: news3) := by
      intro q hq
      rcases List.mem_cons.mp hq with rfl | hq
      · exact ⟨j1, zI.2⟩
      · have z := N3 q (.tail _ hq)
        exact ⟨hs4.extBut _ _ (off1_mem off q hq) z.1, z.2⟩
    refine wpAny_mono (turn i _ m3 news3 It oJ h5 (tk3 + 1) hil (by simp [hil]) hJ off li F5 (hN5 _ N4)) (fun f s₃ h₃ => ?_) fun _ _ e => e
    have key : EndL h₀ env.locals s It oJ (J (i + 1)) s₃ → Again (fun n z => ∃ (h : Heap) (tk i : Nat) (oI : Obj) (m : PySem.Str → Option Value) (news : List (Addr × Obj)), z = { s with heap := h, toks := tk } ∧ i ≤ vs.length ∧ n = vs.length - i ∧ oI.cls = .type "list_iterator" ∧ oI.data = .fields #[.ref D, .int ((i : Nat) : Int) 0] ∧ J i m news ∧ Fr h₀ env.locals h m ∧ Off1 It news ∧ News h₀ env.locals h ((It, oI) :: news)) (vs.length - i) s₃ := by
      rintro ⟨h', tk', m', news', rfl, F', N', o', hJ'⟩
      exact ⟨vs.length - (i + 1), by omega, h', tk', i + 1, oJ, m', news', rfl, by omega, rfl, j2, j3, hJ', F', o', N'⟩
    cases f with
    | next => exact key h₃
    | cont => exact key h₃
    | brk => exact h₃
    | ret v => exact h₃
  · have hieq : i = vs.length := by omega
    subst hieq
    refine wpAny_pyNext_list_end hh hit hls (by simp) fun h4 he4 => ?_
    have hk4 : ∀ b o, b ∉ [It] → h3.get? b = some o → h4.get? b = some o := fun b o hb e => he4 b o (fun q => hb (by rw [q]; exact .head _)) e
    exact done _ _ _ _ hJ (fr_but F3 hk4 (Ne.symm zI.2.1) zI.2.2) (news_but (fun q hq => N3 q (.tail _ hq)) hk4 fun p hp => off1_mem off p hp)
theorem news_name {L : Addr} {h : Heap} {l : List (Addr × Obj)} (_N : News h₀ L h l) : ∃ nw, nw = l := ⟨l, rfl⟩
end
end
section
open PySem PySem.W PyProof.Rows PySem.Calls
open Builtin Builtin.Str
theorem join_glue (l : List (List Nat)) : Txt.join (S dots) (l.map S) = S (glue l) := by
  refine (StrLaws.glued_eq_join _ _).trans ?_
  induction l with
  | nil => rfl
  | cons a r ih =>
    cases r with
    | nil => rfl
    | cons b r =>
      rw [List.map_cons] at ih
      show S a ++ S dots ++ Str.join (S dots) (S b :: r.map S) = _
      rw [ih, S_app, S_app]; rfl
theorem glue_snoc (q : List Nat) : ∀ (l : List (List Nat)), l ≠ [] → glue (l ++ [q]) = glue l ++ dots ++ q
  | [], h => absurd rfl h
  | [a], _ => rfl
  | a :: b :: r, _ => by
    show a ++ dots ++ glue ((b :: r) ++ [q]) = _
    rw [glue_snoc q (b :: r) (by simp)]
    show _ = a ++ dots ++ glue (b :: r) ++ dots ++ q
    simp
theorem form_eq {w : List Nat} (h : w ≠ []) : dots ++ glue (w.map fun c => [c]) ++ dots = formW w := by
  have hm : (w.map fun c => [c]) ≠ [] := by simpa using h
  unfold formW partsW
  have e : ∀ r : List (List Nat), r ≠ [] → glue ([] :: r) = dots ++ glue r := by
    intro r hr
    cases r with
    | nil => exact absurd rfl hr
    | cons b r => rfl
  rw [e _ (by simp), glue_snoc _ _ hm]
  simp
theorem one_sum : ∀ a : List Nat, ((a.map fun c => [c]).map ((fun x : PySem.Str => x.length) ∘ S)).sum = a.length
  | [] => rfl
  | c :: r => by
    have := one_sum r
    simp only [List.map_cons, List.sum_cons, this, List.length_cons, Function.comp_apply, S_len, List.length_nil]
    omega
theorem join_tree_str (sep x : Str) (t u : Tok) : «str.join» ⟨[.str sep t, .str x u], []⟩ = (do
    let ty ← typeOf (.str x u)
    if (ty == .type "list" || ty == .type "tuple") = true then (do
      match ← seqItems? (.str x u) with
      | some xs => joinTail sep xs.toList
      | none => unsupported "internal:str.join")
    else (do
      let it ← (pyIter (.str x u)).tryCatch fun e => do
        if ← isInstance e (.type "TypeError") then rule "str.join.not-iterable"; raiseError "TypeError" "can only join an iterable" else throw e
      let items ← collect it
      joinTail sep items)) := rfl
theorem strs_vals : ∀ {vs : List Value} {l : List (List Nat)}, StrsAre vs l → ∃ ps : List (Str × Tok), strValues ps = vs ∧ ps.map (·.1) = l.map S
  | _, _, .nil => ⟨[], rfl, rfl⟩
  | _, _, .cons x t r => by
    obtain ⟨ps, e1, e2⟩ := strs_vals r
    exact ⟨(S x, t) :: ps, by rw [← e1]; rfl, by rw [List.map_cons, e2]; rfl⟩
section
variable {prog : Program} {w : World} {A : Around} {E : Value → Shared → Prop} {s : Shared} {h₀ : Heap} {L : Addr} {m : PySem.Str → Option Value} {news : List (Addr × Obj)} {t u : Tok} {Q : Value → Shared → Prop}
theorem r_joinS {sep : PySem.Str} {a : List Nat} (hsep : sep = S dots) (hh : A.handled = none) (FR : Fr h₀ L s.heap m) (N : News h₀ L s.heap news) (hl : a.length ≤ 10000)
    (h : ∀ h' t' k, Fr h₀ L h' m → News h₀ L h' news → Q (.str (S (glue (a.map fun c => [c]))) t') { s with heap := h', toks := k }) :
    wpAny (model prog w) A (call (.builtin "str.join") [.str sep t, .str (S a) u]) Q E s := by
  subst hsep
  refine wpAny_call (codeAny_call_builtin F.slot_str_join.plain F.entry_str_join (F.slot_str_join.check _ _ _ _ _ _ _ _ (typeIs_str _ _ _) (F.args_str_join_2 _ _) ?_))
  rw [join_tree_str]
  refine wpAny_bind (wpAny_typeOf (typeIs_str _ _ _) ?_)
  show wpAny _ A.in1 ((pyIter (.str (S a) u)).tryCatch _ >>= fun it => collect it >>= fun items => joinTail (S dots) items) _ _ s
  refine wpAny_bind (wpAny_tryCatch ?_)
  have hsz : (S a).cps.size ≤ sizeLine := by rw [S_size, sizeLine_eq]; omega
  cases ha : (S a).cps.all (· < 128)
  · refine wpAny_pyIter_wide ha ?_
    refine wpAny_bind (wpAny_collect_strIter (A := A.in1) hh (.inr rfl) ⟨_, Heap.get?_push_size _ rfl, rfl, rfl⟩ (fun s' acc hk' hg hd ho hacc => ?_) hsz)
    have hk : ∀ b o, s.heap.get? b = some o → s'.heap.get? b = some o := fun b o e => hk' b o (Nat.ne_of_lt (Heap.lt_size e)) (Heap.get?_push_of_some _ e)
    clear hk' ha
    have hc : CharsAre acc.toList a := by
      refine CharsAre.of_get (by simpa using hacc.1) fun i v hi => ?_
      obtain ⟨c, u, h1, rfl⟩ := hacc.2 i v (by simpa using hi)
      exact ⟨c, u, by simpa [S] using h1, rfl⟩
    obtain ⟨ps, e1, e2⟩ := strs_vals hc.strs
    rw [← e1]
    have hw : ((ps.map (·.1)).map (·.length)).sum + (ps.map (·.1)).length ≤ 1048576 := by
      have e3 : ((ps.map (·.1)).map (·.length)).sum = a.length := by
        rw [e2, List.map_map]
        exact one_sum a
      have e4 : (ps.map (·.1)).length = a.length := by rw [e2]; simp
      rw [e3, e4]; omega
    have hok := joinFits_of_weight (sep := S dots) hw (by rw [S_len]; decide)
    have g : Gives (joinTail (S dots) (strValues ps)) (joinMade (S dots) ps) := by
      have g0 := gives_joinTail (S dots) ps hok
      cases ps with
      | nil => exact g0
      | cons p r => cases r with
        | nil => exact g0
        | cons q r' => exact g0
    refine g prog w A (wants Q E) s' (post_join ps ⟨joinFit_length hok, fun t' k => ?_⟩)
    rw [e2, join_glue]
    have es : ({ s' with toks := k } : Shared) = { s with heap := s'.heap, toks := k } := by
      obtain ⟨a1, a2, a3, a4, a5⟩ := s'
      dsimp only at hg hd ho ⊢
      rw [hg, hd, ho]
    rw [es]
    exact h s'.heap t' k (FR.keeps hk) (N.grown hk)
  · refine wpAny_pyIter_ascii ha ?_
    refine wpAny_bind (wpAny_collect_strIter (A := A.in1) hh (.inl rfl) ⟨_, Heap.get?_push_size _ rfl, rfl, rfl⟩ (fun s' acc hk' hg hd ho hacc => ?_) hsz)
    have hk : ∀ b o, s.heap.get? b = some o → s'.heap.get? b = some o := fun b o e => hk' b o (Nat.ne_of_lt (Heap.lt_size e)) (Heap.get?_push_of_some _ e)
    clear hk' ha
    have hc : CharsAre acc.toList a := by
      refine CharsAre.of_get (by simpa using hacc.1) fun i v hi => ?_
      obtain ⟨c, u, h1, rfl⟩ := hacc.2 i v (by simpa using hi)
      exact ⟨c, u, by simpa [S] using h1, rfl⟩
    obtain ⟨ps, e1, e2⟩ := strs_vals hc.strs
    rw [← e1]
    have hw : ((ps.map (·.1)).map (·.length)).sum + (ps.map (·.1)).length ≤ 1048576 := by
      have e3 : ((ps.map (·.1)).map (·.length)).sum = a.length := by
        rw [e2, List.map_map]
        exact one_sum a
      have e4 : (ps.map (·.1)).length = a.length := by rw [e2]; simp
      rw [e3, e4]; omega
    have hok := joinFits_of_weight (sep := S dots) hw (by rw [S_len]; decide)
    have g : Gives (joinTail (S dots) (strValues ps)) (joinMade (S dots) ps) := by
      have g0 := gives_joinTail (S dots) ps hok
      cases ps with
      | nil => exact g0
      | cons p r => cases r with
        | nil => exact g0
        | cons q r' => exact g0
    refine g prog w A (wants Q E) s' (post_join ps ⟨joinFit_length hok, fun t' k => ?_⟩)
    rw [e2, join_glue]
    have es : ({ s' with toks := k } : Shared) = { s with heap := s'.heap, toks := k } := by
      obtain ⟨a1, a2, a3, a4, a5⟩ := s'
      dsimp only at hg hd ho ⊢
      rw [hg, hd, ho]
    rw [es]
    exact h s'.heap t' k (FR.keeps hk) (N.grown hk)
theorem r_pop0 {D : Addr} {news news' : List (Addr × Obj)} {n : Nat} {us : List Value} {y : Value} {u : Tok} (FR : Fr h₀ L s.heap m) (N : News h₀ L s.heap news) (U : Upd D (listOf (y :: us).toArray n) (listOf us.toArray (n + 1)) news news')
    (hz : us.length + 1 ≤ sizeLine) (h : ∀ h', Fr h₀ L h' m → News h₀ L h' news' → Q y { s with heap := h' }) : wpAny (model prog w) A (call (.builtin "list.pop") [.ref D, .int 0 u]) Q E s :=
  kl_popAt FR N (k := 0) (p := []) (q := us) (y := y) (by decide) (by simp [seqIndex?]) rfl U (by simpa using hz) h
end
end
section
open PySem PySem.W PyProof.Rows PySem.Calls
noncomputable def sayL (b : Bool) : List Nat := if b then [105, 110] else [111, 117, 116]
noncomputable abbrev FD := List (List Nat × Bool)
noncomputable def turnS (H T f : List Nat) (st : List (List Nat) × FD) (c : Nat) : List (List Nat) × FD :=
  if (subB (f ++ [c]) H && subB (f ++ [c]) T) = true then (st.1 ++ [f ++ [c]], st.2) else if (subB (f ++ [c]) H || subB (f ++ [c]) T) = true then (st.1, st.2 ++ [(f ++ [c], subB (f ++ [c]) H)]) else st
noncomputable def stepS (ls H T : List Nat) (most : Nat) : List (List Nat) × FD → List (List Nat) × FD
  | ([], fd) => ([], fd)
  | (f :: q, fd) => if fd.isEmpty = true ∧ f.length < most then ls.foldl (turnS H T f) (q, fd) else (q, fd)
noncomputable def runS (ls H T : List Nat) (most : Nat) : Nat → List (List Nat) × FD → List (List Nat) × FD
  | 0, st => st
  | n + 1, st => runS ls H T most n (stepS ls H T most st)
noncomputable def wgt (K most : Nat) (q : List (List Nat)) : Nat := (q.map fun f => (K + 1) ^ (most - f.length)).sum
noncomputable def soonL (ls H T : List Nat) (most : Nat) : FD := (runS ls H T most ((ls.length + 1) ^ most) ([[]], [])).2
theorem run_nil (ls H T : List Nat) (most : Nat) (fd : FD) : ∀ n, runS ls H T most n ([], fd) = ([], fd)
  | 0 => rfl
  | n + 1 => run_nil ls H T most fd n
theorem wgt_app (K most : Nat) (a b : List (List Nat)) : wgt K most (a ++ b) = wgt K most a + wgt K most b := by
  simp [wgt, List.sum_append]
theorem wgt_len (K most : Nat) : ∀ q, q.length ≤ wgt K most q
  | [] => Nat.zero_le _
  | f :: q => by
    have h := wgt_len K most q
    have h1 : 1 ≤ (K + 1) ^ (most - f.length) := Nat.one_le_pow _ _ (by omega)
    show q.length + 1 ≤ (K + 1) ^ (most - f.length) + wgt K most q
    omega
theorem wgt_turn (K most : Nat) (H T f : List Nat) (st : List (List Nat) × FD) (c : Nat) : wgt K most (turnS H T f st c).1 ≤ wgt K most st.1 + (K + 1) ^ (most - f.length - 1) := by
  unfold turnS
  split
  · rw [wgt_app]
    have : wgt K most [f ++ [c]] = (K + 1) ^ (most - f.length - 1) := by
      simp [wgt, Nat.sub_sub]
    rw [this]; exact Nat.le_refl _
  · split <;> exact Nat.le_add_right _ _
theorem wgt_fold (K most : Nat) (H T f : List Nat) : ∀ (l : List Nat) (st : List (List Nat) × FD), wgt K most (l.foldl (turnS H T f) st).1 ≤ wgt K most st.1 + l.length * (K + 1) ^ (most - f.length - 1)
  | [], st => by simp
  | c :: l, st => by
    have h1 := wgt_turn K most H T f st c
    have h2 := wgt_fold K most H T f l (turnS H T f st c)
    rw [List.foldl_cons, List.length_cons, Nat.succ_mul]
    omega
theorem wgt_step {ls H T f : List Nat} {most : Nat} {q : List (List Nat)} {fd : FD} : wgt ls.length most (stepS ls H T most (f :: q, fd)).1 < wgt ls.length most (f :: q) := by
  have h1 : 1 ≤ (ls.length + 1) ^ (most - f.length) := Nat.one_le_pow _ _ (by omega)
  have h0 : wgt ls.length most (f :: q) = (ls.length + 1) ^ (most - f.length) + wgt ls.length most q := rfl
  show wgt ls.length most (if fd.isEmpty = true ∧ f.length < most then ls.foldl (turnS H T f) (q, fd) else (q, fd)).1 < _
  split
  · rename_i h
    have h2 := wgt_fold ls.length most H T f ls (q, fd)
    obtain ⟨d, hd⟩ : ∃ d, most - f.length = d + 1 := ⟨most - f.length - 1, by omega⟩
    rw [h0]
    rw [hd] at h2 ⊢
    have e : (ls.length + 1) ^ (d + 1) = ls.length * (ls.length + 1) ^ d + (ls.length + 1) ^ d := by rw [Nat.pow_succ, Nat.mul_comm, Nat.succ_mul]
    have h3 : 1 ≤ (ls.length + 1) ^ d := Nat.one_le_pow _ _ (by omega)
    dsimp only at h2
    rw [show d + 1 - 1 = d by omega] at h2
    omega
  · rw [h0]; dsimp only; omega
theorem run_end (ls HH TT : List Nat) (most : Nat) : ∀ (n : Nat) (q : List (List Nat)) (fd : FD), wgt ls.length most q ≤ n → (runS ls HH TT most n (q, fd)).1 = []
  | n, [], fd, _ => by rw [run_nil]
  | 0, f :: q, fd, h => by
    have := wgt_len ls.length most (f :: q)
    rw [List.length_cons] at this; omega
  | n + 1, f :: q, fd, h => by
    have := wgt_step (ls := ls) (H := HH) (T := TT) (f := f) (most := most) (q := q) (fd := fd)
    exact run_end ls HH TT most n (stepS ls HH TT most (f :: q, fd)).1 (stepS ls HH TT most (f :: q, fd)).2 (by omega)
theorem run_soon (ls HH TT : List Nat) (most : Nat) : runS ls HH TT most ((ls.length + 1) ^ most) ([[]], []) = ([], soonL ls HH TT most) :=
  Prod.ext (run_end _ _ _ _ _ _ _ (by simp [wgt])) rfl
theorem stepS_go {ls HH TT f : List Nat} {most : Nat} {q : List (List Nat)} {fd : FD} (h1 : fd = []) (h2 : f.length < most) : stepS ls HH TT most (f :: q, fd) = ls.foldl (turnS HH TT f) (q, fd) := by
  show (if _ then _ else _) = _
  rw [if_pos ⟨by rw [h1]; rfl, h2⟩]
theorem stepS_no {ls HH TT f : List Nat} {most : Nat} {q : List (List Nat)} {fd : FD} (h : ¬ (fd = [] ∧ f.length < most)) : stepS ls HH TT most (f :: q, fd) = (q, fd) := by
  show (if _ then _ else _) = _
  rw [if_neg (fun e => h ⟨List.isEmpty_iff.mp e.1, e.2⟩)]
inductive FoundAre : List Value → List (Addr × Obj) → FD → Prop
  | nil : FoundAre [] [] []
  | snoc {vs : List Value} {tl : List (Addr × Obj)} {l : FD} (T U : Addr) (x : List Nat) (b : Bool) (t t1 t2 : Tok) : FoundAre vs tl l → FoundAre (vs ++ [.ref T]) ((T, tupObj [.str (S x) t, .ref U]) :: (U, tupObj [.str (S (sayL b)) t1, .str (S (sayL (!b))) t2]) :: tl) (l ++ [(x, b)])
theorem FoundAre.length {vs : List Value} {tl : List (Addr × Obj)} {l : FD} (h : FoundAre vs tl l) : vs.length = l.length := by
  induction h with
  | nil => rfl
  | snoc _ _ _ _ _ _ _ _ ih => simp [ih]
theorem FoundAre.empty {vs : List Value} {tl : List (Addr × Obj)} {l : FD} (h : FoundAre vs tl l) : vs = [] ↔ l = [] := by
  have := h.length
  rw [← List.length_eq_zero_iff, ← List.length_eq_zero_iff, this]
theorem FoundAre.first {vs : List Value} {tl : List (Addr × Obj)} {l : FD} (h : FoundAre vs tl l) : ∃ tl', FoundAre (vs.take 1) tl' (l.take 1) ∧ ∀ q ∈ tl', q ∈ tl := by
  induction h with
  | nil => exact ⟨[], .nil, fun q hq => hq⟩
  | @snoc vs tl l T U x b t t1 t2 h ih =>
    by_cases h0 : vs = []
    · obtain rfl := h0
      obtain rfl := h.empty.mp rfl
      refine ⟨[(T, tupObj [.str (S x) t, .ref U]), (U, tupObj [.str (S (sayL b)) t1, .str (S (sayL (!b))) t2])], FoundAre.snoc T U x b t t1 t2 .nil, fun q hq => ?_⟩
      rcases List.mem_cons.mp hq with rfl | hq
      · exact .head _
      · rw [List.mem_singleton.mp hq]; exact .tail _ (.head _)
    · obtain ⟨tl', h1, h2⟩ := ih
      have hv : 1 ≤ vs.length := List.length_pos_iff.mpr h0
      have hl : 1 ≤ l.length := by rw [← h.length]; exact hv
      refine ⟨tl', ?_, fun q hq => .tail _ (.tail _ (h2 q hq))⟩
      rw [List.take_append_of_le_length hv, List.take_append_of_le_length hl]
      exact h1
noncomputable def datF (p : List Nat × Bool) : PyData := .tuple [.str (S p.1), .tuple [.str (S (sayL p.2)), .str (S (sayL (!p.2)))]]
theorem readsAll_app {h : Heap} : ∀ {vs ws : List Value} {ds es : List PyData} {as bs : List Addr}, ReadsAll h vs ds as → ReadsAll h ws es bs → ReadsAll h (vs ++ ws) (ds ++ es) (as ++ bs)
  | _, _, _, _, _, _, .nil, h2 => h2
  | _, _, _, _, _, _, .cons r h1, h2 => by
    have := ReadsAll.cons r (readsAll_app h1 h2)
    rw [List.append_assoc]
    exact this
theorem FoundAre.reads {h₀ h : Heap} {L : Addr} {vs : List Value} {tl : List (Addr × Obj)} {l : FD} (hf : FoundAre vs tl l) (N : ∀ q ∈ tl, h.get? q.1 = some q.2) : ReadsAll h vs (l.map datF) [] := by
  induction hf with
  | nil => exact .nil
  | @snoc vs tl l T U x b t t1 t2 h ih =>
    have ht := N _ (.head _)
    have hu := N _ (.tail _ (.head _))
    have ru : Reads _ (.ref U) (.tuple [.str (S (sayL b)), .str (S (sayL (!b)))]) [] := .tuple hu rfl rfl (.cons (.str _ _) (.cons (.str _ _) .nil))
    have rt : Reads _ (.ref T) (datF (x, b)) [] := .tuple ht rfl rfl (.cons (.str _ _) (.cons ru .nil))
    rw [List.map_append]
    exact readsAll_app (ih fun q hq => N q (.tail _ (.tail _ hq))) (.cons rt .nil)
noncomputable abbrev Ok8F (l : FD) : Prop := ∀ p ∈ l, p.1.all (· < 0x110000) = true
theorem say_ok (b : Bool) : PyData.strOk (S (sayL b)) = true := by cases b <;> decide +kernel
theorem datF_lay : ∀ l : FD, Ok8F l → PyData.canLayAll0 (l.map datF) = true
  | [], _ => rfl
  | p :: r, h => by
    have h1 : PyData.strOk (S p.1) = true := by
      have := h p (.head _)
      simpa [PyData.strOk, S] using this
    have h2 := say_ok p.2
    have h3 := say_ok (!p.2)
    have h4 := datF_lay r fun y hy => h y (.tail _ hy)
    simp only [List.map_cons, PyData.canLayAll0, datF, PyData.canLay0, h1, h2, h3, h4, Bool.and_self]
theorem datF_depth : ∀ l : FD, PyData.depthAll (l.map datF) ≤ 2
  | [] => by simp [PyData.depthAll]
  | p :: r => by
    have := datF_depth r
    simp [PyData.depthAll, PyData.depth, datF]
    omega
theorem datF_shaped {l : FD} (h : Ok8F l) : SeqAt.shaped (.list (l.map datF)) = true := by
  have h1 := datF_lay l h
  have h2 := datF_depth l
  refine Bool.and_eq_true_iff.mpr ⟨by rw [PyData.canLay0]; exact h1, decide_eq_true ?_⟩
  rw [PyData.depth]
  omega
theorem say_inj {a b : Bool} : (S (sayL a) == S (sayL b)) = decide (a = b) := by cases a <;> cases b <;> decide +kernel
theorem datF_eqv : ∀ l k : FD, PyData.eqvAll (l.map datF) (k.map datF) = decide (l = k)
  | [], [] => by simp [PyData.eqvAll]
  | [], _ :: _ => by simp [PyData.eqvAll]
  | _ :: _, [] => by simp [PyData.eqvAll]
  | (x, a) :: r, (y, b) :: t => by
    simp only [List.map_cons, PyData.eqvAll, datF_eqv r t, datF, PyData.eqv, say_inj, Bool.and_true]
    by_cases h1 : x = y <;> by_cases h2 : a = b <;> by_cases h3 : r = t <;> simp [h1, h2, h3, S]
section
variable {prog : Program} {w : World} {A : Around} {E : Value → Shared → Prop} {s : Shared} {h₀ : Heap} {L : Addr} {a b : Addr} {va vb : List Value} {ta tb news : List (Addr × Obj)} {la lb : FD} {Q : Value → Shared → Prop}
theorem reads_found (hl : s.heap.IsList a va.toArray) (hf : FoundAre va ta la) (N : News h₀ L s.heap news) (hs : ∀ q ∈ ta, q ∈ news) : Reads s.heap (.ref a) (.list (la.map datF)) [a] := by
  obtain ⟨o, ho, hc, n, hd⟩ := hl
  exact .list ho hc hd (hf.reads (h₀ := h₀) (L := L) fun q hq => (N q (hs q hq)).1)
theorem r_eqF (ha : s.heap.IsList a va.toArray) (hb : s.heap.IsList b vb.toArray) (fa : FoundAre va ta la) (fb : FoundAre vb tb lb) (N : News h₀ L s.heap news) (sa : ∀ q ∈ ta, q ∈ news) (sb : ∀ q ∈ tb, q ∈ news) (oa : Ok8F la) (ob : Ok8F lb) (hu : A.units + 64 < cLine)
    (h : Q (.bool (decide (la = lb))) s) : wpAny (model prog w) A (compareOp .Eq (.ref a) (.ref b)) Q E s :=
  SeqAt.compareEq_shaped (reads_found ha fa N sa) (reads_found hb fb N sb) (datF_shaped oa) (datF_shaped ob) hu (by rw [PyData.eqv, datF_eqv]; exact h)
theorem r_neF (ha : s.heap.IsList a va.toArray) (hb : s.heap.IsList b vb.toArray) (fa : FoundAre va ta la) (fb : FoundAre vb tb lb) (N : News h₀ L s.heap news) (sa : ∀ q ∈ ta, q ∈ news) (sb : ∀ q ∈ tb, q ∈ news) (oa : Ok8F la) (ob : Ok8F lb) (hu : A.units + 64 < cLine)
    (h : Q (.bool (!decide (la = lb))) s) : wpAny (model prog w) A (compareOp .NotEq (.ref a) (.ref b)) Q E s :=
  SeqAt.compareNe_shaped (reads_found ha fa N sa) (reads_found hb fb N sb) (datF_shaped oa) (datF_shaped ob) hu (by rw [PyData.eqv, datF_eqv]; exact h)
theorem r_eqT {x1 x2 y1 y2 : Bool} {t1 t2 u1 u2 : Tok} (ha : s.heap.get? a = some (tupObj [.str (S (sayL x1)) t1, .str (S (sayL x2)) t2])) (hb : s.heap.get? b = some (tupObj [.str (S (sayL y1)) u1, .str (S (sayL y2)) u2])) (hu : A.units + 64 < cLine)
    (h : Q (.bool (decide (x1 = y1 ∧ x2 = y2))) s) : wpAny (model prog w) A (compareOp .Eq (.ref a) (.ref b)) Q E s := by
  have sh : ∀ p q : Bool, SeqAt.shaped (.tuple [.str (S (sayL p)), .str (S (sayL q))]) = true := fun p q => by cases p <;> cases q <;> decide +kernel
  refine SeqAt.compareEq_shaped (da := .tuple [.str (S (sayL x1)), .str (S (sayL x2))]) (db := .tuple [.str (S (sayL y1)), .str (S (sayL y2))]) (.tuple ha rfl rfl (.cons (.str _ _) (.cons (.str _ _) .nil))) (.tuple hb rfl rfl (.cons (.str _ _) (.cons (.str _ _) .nil))) (sh _ _) (sh _ _) hu ?_
  have e : PyData.eqv (.tuple [.str (S (sayL x1)), .str (S (sayL x2))]) (.tuple [.str (S (sayL y1)), .str (S (sayL y2))]) = decide (x1 = y1 ∧ x2 = y2) := by cases x1 <;> cases x2 <;> cases y1 <;> cases y2 <;> decide +kernel
  rw [e]; exact h
theorem r_neT {x1 x2 y1 y2 : Bool} {t1 t2 u1 u2 : Tok} (ha : s.heap.get? a = some (tupObj [.str (S (sayL x1)) t1, .str (S (sayL x2)) t2])) (hb : s.heap.get? b = some (tupObj [.str (S (sayL y1)) u1, .str (S (sayL y2)) u2])) (hu : A.units + 64 < cLine)
    (h : Q (.bool (!decide (x1 = y1 ∧ x2 = y2))) s) : wpAny (model prog w) A (compareOp .NotEq (.ref a) (.ref b)) Q E s := by
  have sh : ∀ p q : Bool, SeqAt.shaped (.tuple [.str (S (sayL p)), .str (S (sayL q))]) = true := fun p q => by cases p <;> cases q <;> decide +kernel
  refine SeqAt.compareNe_shaped (da := .tuple [.str (S (sayL x1)), .str (S (sayL x2))]) (db := .tuple [.str (S (sayL y1)), .str (S (sayL y2))]) (.tuple ha rfl rfl (.cons (.str _ _) (.cons (.str _ _) .nil))) (.tuple hb rfl rfl (.cons (.str _ _) (.cons (.str _ _) .nil))) (sh _ _) (sh _ _) hu ?_
  have e : PyData.eqv (.tuple [.str (S (sayL x1)), .str (S (sayL x2))]) (.tuple [.str (S (sayL y1)), .str (S (sayL y2))]) = decide (x1 = y1 ∧ x2 = y2) := by cases x1 <;> cases x2 <;> cases y1 <;> cases y2 <;> decide +kernel
  rw [e]; exact h
end
end
section
open PySem PySem.W PyProof.Rows PySem.Calls
theorem lit_in : PySem.Str.ofString "in" = S (sayL true) := by decide +kernel
theorem lit_out : PySem.Str.ofString "out" = S (sayL false) := by decide +kernel
theorem chars_at {vs : List Value} {l : List Nat} (h : CharsAre vs l) : ∀ {i : Nat} {v : Value}, vs[i]? = some v → ∃ c t, v = .str (S [c]) t ∧ l[i]? = some c := by
  induction h with
  | nil => intro i v e; cases e
  | cons c t _ ih =>
    intro i v e
    cases i with
    | zero => cases e; exact ⟨_, _, rfl, rfl⟩
    | succ i => exact ih (by simpa using e)
section
variable {prog : Program} {w : World} {A : Around} {E : Value → Shared → Prop} {s : Shared} {h₀ : Heap} {L : Addr} {a b : Addr} {news : List (Addr × Obj)} {Q : Value → Shared → Prop}
theorem r_eqIn {x1 x2 : Bool} {t1 t2 u1 u2 : Tok} (N : News h₀ L s.heap news) (ha : (a, tupObj [.str (S (sayL x1)) t1, .str (S (sayL x2)) t2]) ∈ news) (hb : (b, tupObj [.str (PySem.Str.ofString "in") u1, .str (PySem.Str.ofString "in") u2]) ∈ news) (hu : A.units + 64 < cLine)
    (h : Q (.bool (x1 && x2)) s) : wpAny (model prog w) A (compareOp .Eq (.ref a) (.ref b)) Q E s := by
  rw [lit_in] at hb
  refine r_eqT (N _ ha).1 (N _ hb).1 hu ?_
  have e : decide (x1 = true ∧ x2 = true) = (x1 && x2) := by cases x1 <;> cases x2 <;> rfl
  rw [e]; exact h
theorem r_neOut {x1 x2 : Bool} {t1 t2 u1 u2 : Tok} (N : News h₀ L s.heap news) (ha : (a, tupObj [.str (S (sayL x1)) t1, .str (S (sayL x2)) t2]) ∈ news) (hb : (b, tupObj [.str (PySem.Str.ofString "out") u1, .str (PySem.Str.ofString "out") u2]) ∈ news) (hu : A.units + 64 < cLine)
    (h : Q (.bool (x1 || x2)) s) : wpAny (model prog w) A (compareOp .NotEq (.ref a) (.ref b)) Q E s := by
  rw [lit_out] at hb
  refine r_neT (N _ ha).1 (N _ hb).1 hu ?_
  have e : (!decide (x1 = false ∧ x2 = false)) = (x1 || x2) := by cases x1 <;> cases x2 <;> rfl
  rw [e]; exact h
end
theorem stepS_def {ls H T : List Nat} {most n : Nat} {st : List (List Nat) × FD} : runS ls H T most (n + 1) st = runS ls H T most n (stepS ls H T most st) := rfl
theorem news_tail {h₀ h : Heap} {L : Addr} {x : Addr × Obj} {l : List (Addr × Obj)} (N : News h₀ L h (x :: l)) : News h₀ L h l := fun q hq => N q (.tail _ hq)
theorem snd_addr {h₀ h : Heap} {L T U : Addr} {v : Value} {l : List (Addr × Obj)} (_N : News h₀ L h ((T, tupObj [v, .ref U]) :: l)) : ∃ U' : Addr, U' = U := ⟨U, rfl⟩
theorem turn_in {H T f : List Nat} {st : List (List Nat) × FD} {c : Nat} (h : (subB (f ++ [c]) H && subB (f ++ [c]) T) = true) : turnS H T f st c = (st.1 ++ [f ++ [c]], st.2) := by unfold turnS; rw [if_pos h]
theorem turn_found {H T f : List Nat} {st : List (List Nat) × FD} {c : Nat} (h : ¬ (subB (f ++ [c]) H && subB (f ++ [c]) T) = true) (h2 : (subB (f ++ [c]) H || subB (f ++ [c]) T) = true) : turnS H T f st c = (st.1, st.2 ++ [(f ++ [c], subB (f ++ [c]) H)]) ∧ subB (f ++ [c]) T = !subB (f ++ [c]) H := by
  unfold turnS
  rw [if_neg h, if_pos h2]
  refine ⟨rfl, ?_⟩
  revert h h2
  cases subB (f ++ [c]) H <;> cases subB (f ++ [c]) T <;> simp
theorem turn_none {H T f : List Nat} {st : List (List Nat) × FD} {c : Nat} (h : ¬ (subB (f ++ [c]) H && subB (f ++ [c]) T) = true) (h2 : ¬ (subB (f ++ [c]) H || subB (f ++ [c]) T) = true) : turnS H T f st c = st := by
  unfold turnS; rw [if_neg h, if_neg h2]
theorem fold_at {H T f ls : List Nat} {st : List (List Nat) × FD} {i c : Nat} (h : ls[i]? = some c) : (ls.take (i + 1)).foldl (turnS H T f) st = turnS H T f ((ls.take i).foldl (turnS H T f) st) c := by
  rw [List.take_add_one, h, List.foldl_append]; rfl
end
section
open PySem PySem.W PyProof.Rows PySem.Calls PyProof.Rows.LCg
section
variable {prog : Program} {w : World} {A : Around} {E : Value → Shared → Prop} {s : Shared} {h₀ : Heap}
theorem loopS {env : Env} {x : PySem.Str} {body : List Stmt} {Q : Flow → Shared → Prop} {xs : List Nat} {tt : Tok} {m0 : PySem.Str → Option Value} {news0 : List (Addr × Obj)} (J : Nat → (PySem.Str → Option Value) → List (Addr × Obj) → Prop)
    (hh : A.handled = none) (F : Fr h₀ env.locals s.heap m0) (N : News h₀ env.locals s.heap news0) (h8 : ∀ c ∈ xs, c < 128) (h0 : J 0 m0 news0)
    (turn : ∀ i c u m news It oI h tk, xs[i]? = some c → J i m news → Off1 It news → (∀ p ∈ news0, @LT.lt Nat _ p.1 It) → Fr h₀ env.locals h (fun y => if y = x then some (.str (S [c]) u) else m y) → News h₀ env.locals h ((It, oI) :: news) →
      TurnL prog w A env h₀ body Q E s It oI (J (i + 1)) { s with heap := h, toks := tk })
    (done : ∀ m news h tk, J xs.length m news → Fr h₀ env.locals h m → News h₀ env.locals h news → Q .next { s with heap := h, toks := tk }) :
    wpAny (model prog w) A (pyIter (.str (S xs) tt)) (fun it s₂ => LoopOwn prog w A env h₀ x body Q E it s₂) E s := by
  have ha : (S xs).cps.all (· < 128) = true := by
    rw [Array.all_eq_true']
    intro c hc
    exact decide_eq_true (h8 c (by simpa [S] using hc))
  have hsz : (S xs).cps.size = xs.length := by simp [S]
  refine wpAny_pyIter_ascii ha ?_
  have N2 := News.push F N { cls := .type "str_ascii_iterator", data := .fields #[.str (S xs) tt, .int 0 0] }
  have F2 := Fr.push F { cls := .type "str_ascii_iterator", data := .fields #[.str (S xs) tt, .int 0 0] }
  have li := fun q hq => Heap.lt_size (N q hq).1
  generalize hIt : s.heap.objs.size = It at *
  refine ⟨fun n z => ∃ (h : Heap) (tk i : Nat) (oI : Obj) (m : PySem.Str → Option Value) (news : List (Addr × Obj)), z = { s with heap := h, toks := tk } ∧ i ≤ xs.length ∧ n = xs.length - i ∧ oI.cls = .type "str_ascii_iterator" ∧ oI.data = .fields #[.str (S xs) tt, .int ((i : Nat) : Int) 0] ∧ J i m news ∧ Fr h₀ env.locals h m ∧ Off1 It news ∧ News h₀ env.locals h ((It, oI) :: news),
    xs.length, ⟨_, _, 0, _, m0, news0, rfl, Nat.zero_le _, rfl, rfl, rfl, h0, F2, off1_of fun q hq => Nat.ne_of_lt (li q hq), N2⟩, ?_⟩
  rintro n z ⟨h3, tk3, i, oI, m3, news3, rfl, hi, rfl, hc, hd, hJ, F3, off, N3⟩
  have hit : h3.IsStrIter It "str_ascii_iterator" (S xs) tt i := ⟨oI, (N3 _ (.head _)).1, hc, hd⟩
  have zI := N3 _ (.head _)
  by_cases hil : i < xs.length
  · have hx : (S xs).cps[i]? = some xs[i] := by simp [S, hil]
    refine wpAny_pyNext_ascii_item hit hx fun h4 hit4 hs4 => ?_
    obtain ⟨oJ, j1, j2, j3⟩ := hit4
    refine ⟨m3, F3.change hs4 zI.2.1 zI.2.2, fun h5 F5 hN5 => ?_⟩
    have N4 : News h₀ env.locals h4 ((It, oJ) :: news3) := by
      intro q hq
      rcases List.mem_cons.mp hq with rfl | hq
      · exact ⟨j1, zI.2⟩
      · have z := N3 q (.tail _ hq)
        exact ⟨hs4.extBut _ _ (off1_mem off q hq) z.1, z.2⟩
    refine wpAny_mono (turn i xs[i] _ m3 news3 It oJ h5 _ (by simp [hil]) hJ off li F5 (hN5 _ N4)) (fun f s₃ h₃ => ?_) fun _ _ e => e
    have key : EndL h₀ env.locals s It oJ (J (i + 1)) s₃ → Again (fun n z => ∃ (h : Heap) (tk i : Nat) (oI : Obj) (m : PySem.Str → Option Value) (news : List (Addr × Obj)), z = { s with heap := h, toks := tk } ∧ i ≤ xs.length ∧ n = xs.length - i ∧ oI.cls = .type "str_ascii_iterator" ∧ oI.data = .fields #[.str (S xs) tt, .int ((i : Nat) : Int) 0] ∧ J i m news ∧ Fr h₀ env.locals h m ∧ Off1 It news ∧ News h₀ env.locals h ((It, oI) :: news)) (xs.length - i) s₃ := by
      rintro ⟨h', tk', m', news', rfl, F', N', o', hJ'⟩
      exact ⟨xs.length - (i + 1), by omega, h', tk', i + 1, oJ, m', news', rfl, by omega, rfl, j2, j3, hJ', F', o', N'⟩
    cases f with
    | next => exact key h₃
    | cont => exact key h₃
    | brk => exact h₃
    | ret v => exact h₃
  · have hieq : i = xs.length := by omega
    subst hieq
    refine wpAny_pyNext_ascii_end hh hit (by simp [S]) fun h4 he4 => ?_
    have hk4 : ∀ b o, b ∉ [It] → h3.get? b = some o → h4.get? b = some o := fun b o hb e => he4 b o (fun q => hb (by rw [q]; exact .head _)) e
    exact done _ _ _ _ hJ (fr_but F3 hk4 (Ne.symm zI.2.1) zI.2.2) (news_but (fun q hq => N3 q (.tail _ hq)) hk4 fun p hp => off1_mem off p hp)
theorem loopSA {env : Env} {target : PySem.Expr} {body : List Stmt} {Q : Flow → Shared → Prop} {xs : List Nat} {tt : Tok} {m0 : PySem.Str → Option Value} {news0 : List (Addr × Obj)} (J : Nat → (PySem.Str → Option Value) → List (Addr × Obj) → Prop)
    (hh : A.handled = none) (F : Fr h₀ env.locals s.heap m0) (N : News h₀ env.locals s.heap news0) (h8 : ∀ c ∈ xs, c < 128) (h0 : J 0 m0 news0)
    (turn : ∀ i c u m news It oI h tk, xs[i]? = some c → J i m news → Off1 It news → (∀ p ∈ news0, @LT.lt Nat _ p.1 It) → Fr h₀ env.locals h m → News h₀ env.locals h ((It, oI) :: news) →
      wpAny (model prog w) A (assign target env (.str (S [c]) u)) (fun _ s₂ => TurnL prog w A env h₀ body Q E s It oI (J (i + 1)) s₂) E { s with heap := h, toks := tk })
    (hg : ∀ it v, letOwnedTupleGo target it v = pure () := by intro _ _; rfl)
    (done : ∀ m news h tk, J xs.length m news → Fr h₀ env.locals h m → News h₀ env.locals h news → Q .next { s with heap := h, toks := tk }) :
    wpAny (model prog w) A (pyIter (.str (S xs) tt)) (fun it s₂ => LoopA prog w A env target body Q E it s₂) E s := by
  have ha : (S xs).cps.all (· < 128) = true := by
    rw [Array.all_eq_true']
    intro c hc
    exact decide_eq_true (h8 c (by simpa [S] using hc))
  have hsz : (S xs).cps.size = xs.length := by simp [S]
  refine wpAny_pyIter_ascii ha ?_
  have N2 := News.push F N { cls := .type "str_ascii_iterator", data := .fields #[.str (S xs) tt, .int 0 0] }
  have F2 := Fr.push F { cls := .type "str_ascii_iterator", data := .fields #[.str (S xs) tt, .int 0 0] }
  have li := fun q hq => Heap.lt_size (N q hq).1
  generalize hIt : s.heap.objs.size = It at *
  refine ⟨fun n z => ∃ (h : Heap) (tk i : Nat) (oI : Obj) (m : PySem.Str → Option Value) (news : List (Addr × Obj)), z = { s with heap := h, toks := tk } ∧ i ≤ xs.length ∧ n = xs.length - i ∧ oI.cls = .type "str_ascii_iterator" ∧ oI.data = .fields #[.str (S xs) tt, .int ((i : Nat) : Int) 0] ∧ J i m news ∧ Fr h₀ env.locals h m ∧ Off1 It news ∧ News h₀ env.locals h ((It, oI) :: news),
    xs.length, ⟨_, _, 0, _, m0, news0, rfl, Nat.zero_le _, rfl, rfl, rfl, h0, F2, off1_of fun q hq => Nat.ne_of_lt (li q hq), N2⟩, ?_⟩
  rintro n z ⟨h3, tk3, i, oI, m3, news3, rfl, hi, rfl, hc, hd, hJ, F3, off, N3⟩
  have hit : h3.IsStrIter It "str_ascii_iterator" (S xs) tt i := ⟨oI, (N3 _ (.head _)).1, hc, hd⟩
  have zI := N3 _ (.head _)
  by_cases hil : i < xs.length
  · have hx : (S xs).cps[i]? = some xs[i] := by simp [S, hil]
    refine wpAny_pyNext_ascii_item hit hx fun h4 hit4 hs4 => ?_
    obtain ⟨oJ, j1, j2, j3⟩ := hit4
    have F5 := F3.change hs4 zI.2.1 zI.2.2
    have N4 : News h₀ env.locals h4 ((It, oJ) :: news3) := by
      intro q hq
      rcases List.mem_cons.mp hq with rfl | hq
      · exact ⟨j1, zI.2⟩
      · have z := N3 q (.tail _ hq)
        exact ⟨hs4.extBut _ _ (off1_mem off q hq) z.1, z.2⟩
    show wpAny _ _ (letOwnedTupleGo _ _ _) _ _ _
    rw [hg]
    refine wpAny_pure (wpAny_mono (turn i xs[i] _ m3 news3 It oJ h4 _ (by simp [hil]) hJ off li F5 N4) (fun _ s₂ h₂ => wpAny_mono h₂ (fun f s₃ h₃ => ?_) fun _ _ e => e) fun _ _ e => e)
    have key : EndL h₀ env.locals s It oJ (J (i + 1)) s₃ → Again (fun n z => ∃ (h : Heap) (tk i : Nat) (oI : Obj) (m : PySem.Str → Option Value) (news : List (Addr × Obj)), z = { s with heap := h, toks := tk } ∧ i ≤ xs.length ∧ n = xs.length - i ∧ oI.cls = .type "str_ascii_iterator" ∧ oI.data = .fields #[.str (S xs) tt, .int ((i : Nat) : Int) 0] ∧ J i m news ∧ Fr h₀ env.locals h m ∧ Off1 It news ∧ News h₀ env.locals h ((It, oI) :: news)) (xs.length - i) s₃ := by
      rintro ⟨h', tk', m', news', rfl, F', N', o', hJ'⟩
      exact ⟨xs.length - (i + 1), by omega, h', tk', i + 1, oJ, m', news', rfl, by omega, rfl, j2, j3, hJ', F', o', N'⟩
    cases f with
    | next => exact key h₃
    | cont => exact key h₃
    | brk => exact h₃
    | ret v => exact h₃
  · have hieq : i = xs.length := by omega
    subst hieq
    refine wpAny_pyNext_ascii_end hh hit (by simp [S]) fun h4 he4 => ?_
    have hk4 : ∀ b o, b ∉ [It] → h3.get? b = some o → h4.get? b = some o := fun b o hb e => he4 b o (fun q => hb (by rw [q]; exact .head _)) e
    exact done _ _ _ _ hJ (fr_but F3 hk4 (Ne.symm zI.2.1) zI.2.2) (news_but (fun q hq => N3 q (.tail _ hq)) hk4 fun p hp => off1_mem off p hp)
end
end
section
open PySem PySem.W PyProof.Rows PySem.Calls
theorem strs_at {vs : List Value} {l : List (List Nat)} (h : StrsAre vs l) : ∀ {i : Nat} {v : Value}, vs[i]? = some v → ∃ x t, v = .str (S x) t ∧ l[i]? = some x := by
  induction h with
  | nil => intro i v e; cases e
  | cons x t _ ih =>
    intro i v e
    cases i with
    | zero => cases e; exact ⟨_, _, rfl, rfl⟩
    | succ i => exact ih (by simpa using e)
noncomputable def Holds (prog : Program) (w : World) (h : Heap) (a : Addr) (xs : List PySem.Str) : Prop := ∃ c, c ≤ xs.length ∧ h.SetOf (strKind prog w) a (fun y => decide (y ∈ xs)) c
theorem Holds.keep {prog : Program} {w : World} {h h' : Heap} {a : Addr} {xs : List PySem.Str} (H : Holds prog w h a xs) (e : ∀ o, h.get? a = some o → h'.get? a = some o) : Holds prog w h' a xs := by
  obtain ⟨c, hc, o, es, ep, tb, ho, rest⟩ := H
  exact ⟨c, hc, o, es, ep, tb, e _ ho, rest⟩
section
variable {prog : Program} {w : World} {A : Around} {R : Result → Shared → Prop} {I : Addr} {fp wr : List Addr} {G : Array GenState → Array GenState → Prop} {n : Nat} {P : Nat → Value → Prop} {St : Nat → Shared → Prop}
theorem set_loop (W : WalksS prog w A.in1 I fp wr G n P St) (a : Addr) (haf : a ∉ fp) (xs : List PySem.Str) (hn : xs.length = n) (hval : ∀ i v, P i v → ∃ x t, xs[i]? = some x ∧ v = .str x t) (hb : n + 1 < scanBound) :
    ∀ (k i : Nat) (s : Shared), i + k = n → St i s → Holds prog w s.heap a (xs.take i) →
      (∀ s', Moved (a :: wr) G s s' → Holds prog w s'.heap a xs → R (.ok (.ret .none)) s') → codeAny (model prog w) A (.builtin "set.update.loop" ⟨[.ref a, .ref I], []⟩) R s := by
  have haw : a ∉ wr := fun h => haf (W.sub _ h)
  have hsub : ∀ b ∈ wr, b ∈ a :: wr := fun b hb => List.mem_cons_of_mem _ hb
  intro k
  induction k with
  | zero =>
    intro i s hk hst hS hR
    obtain rfl : i = n := by omega
    refine codeAny_builtin F.entry_set_update_loop ?_
    rw [Around.under_plainId F.plain_set_update_loop _]
    show wpAny _ A.in1 (pyNext (.ref I) >>= _) _ _ s
    refine wpAny_bind (W.done s _ _ hst fun s' hm => ?_)
    show wpAny _ A.in1 (ret Value.none) _ _ s'
    rw [List.take_of_length_le (by omega)] at hS
    exact wpAny_pure (hR s' (hm.mono hsub) (hS.keep fun o e => hm.heap a o haw e))
  | succ k ih =>
    intro i s hk hst hS hR
    refine codeAny_builtin F.entry_set_update_loop ?_
    rw [Around.under_plainId F.plain_set_update_loop _]
    show wpAny _ A.in1 (pyNext (.ref I) >>= _) _ _ s
    refine wpAny_bind (W.item i s _ _ (by omega) hst fun v s' hP hst' hm => ?_)
    obtain ⟨x, t, hx, rfl⟩ := hval i v hP
    obtain ⟨c, hc, hS'⟩ := hS.keep fun o e => hm.heap a o haw e
    rw [List.length_take] at hc
    show wpAny _ A.in1 (holding [Value.str x t] (setAdd a (.str x t)) >>= _) _ _ s'
    refine wpAny_bind (wpAny_holding ?_)
    unfold setAdd
    refine wpAny_holding (wpAny_bind ((strKind prog w).pyHash (k := x) (strKind_is _ _ _ _) ?_))
    refine wpAny_setAddHashed_of (knd := strKind prog w) (s := { s' with toks := s'.toks + 1 }) (strKind_is _ _ _ _) rfl hS' (by omega) fun h' hsb hS2 => ?_
    have hSi : Holds prog w h' a (xs.take (i + 1)) := by
      refine ⟨_, ?_, SetOf_congr hS2 (fun y => ?_) rfl⟩
      · rw [List.length_take]; split <;> omega
      · rw [List.take_add_one, hx, Bool.eq_iff_iff]
        simp
    refine wpAny_pure ⟨plainId_quiet F.plain_set_update_loop _, ih (i + 1) _ (by omega) (W.frame _ s' _ _ hst' (Nat.le_succ _) fun b hb o e => ?_) hSi fun s'' hm'' hS'' => ?_⟩
    · rw [hsb.2 b (fun h : b = a => haf (by rw [← h]; exact hb))]; exact e
    · refine hR s'' (Moved.trans W.gtrans ((hm.mono hsub).then_heap (Nat.le_succ _) fun b o hb e => ?_) hm'') hS''
      rw [hsb.2 b (fun h : b = a => hb (by rw [h]; exact List.mem_cons_self))]; exact e
end
noncomputable def InitR (s : Shared) (H : Heap → Prop) (E : Value → Shared → Prop) : Result → Shared → Prop := wants (fun r z => r = .none ∧ ∃ h' tk, z = { s with heap := h', toks := tk } ∧ H h' ∧ (∀ b o, b < s.heap.objs.size → s.heap.get? b = some o → h'.get? b = some o)) E
noncomputable def freshSet (led : Bool) : Obj := { cls := .type "set", dict := none, data := .set #[] 0 (.fresh 0 0 led) }
noncomputable def InitGoal (prog : Program) (w : World) (A : Around) (s : Shared) (v : Value) (H : Heap → Prop) (E : Value → Shared → Prop) : Prop := ∀ led, wpAny (model prog w) A.in1.in1 (Builtin.«set.__init__» ⟨[.ref s.heap.objs.size, v], []⟩)
    (fun fin s' => match fin with | .done f => InitR s H E (.ok f) s' | .again c' => c'.quiet = true ∧ codeAny (model prog w) A.in1 c' (InitR s H E) s') (fun e s' => InitR s H E (.error e) s') { s with heap := s.heap.push (freshSet led) }
open PySem.Calls in
set_option maxHeartbeats 3200000 in
theorem set_gen {prog : Program} {w : World} {A : Around} {E : Value → Shared → Prop} {s : Shared} {v : Value} {H : Heap → Prop} {Q : Value → Shared → Prop} (hu : InitGoal prog w A s v H E)
    (h : ∀ (h' : Heap) (tk : Nat), H h' → (∀ b o, b < s.heap.objs.size → s.heap.get? b = some o → h'.get? b = some o) → Q (.ref s.heap.objs.size) { s with heap := h', toks := tk }) :
    wpAny (model prog w) A (call (.type "set") [v]) Q E s := by
  obtain ⟨c, tl, hmro⟩ := F.called_set.mro
  have k1 := F.called_set.made
  have k2 := F.called_set.sub
  have k3 := F.called_set.notType
  have k4 := F.called_set.canCreate
  have k5 := F.typeCall_set_1 v
  refine wpAny_call (codeAny_of_tree ?_)
  show wpAny _ _ (callAny (.type "set") _) _ _ _
  refine wpAny_pure ⟨Code.quiet_builtin _ (by decide +kernel), codeAny_builtin F.entry_type_call ?_⟩
  rw [Around.under_plain (weight_type_call_type "set" [v] []) rfl]
  repeat (any_goals (first | assumption | wp_step))
  refine codeAny_mono (code_set_new_1 v (E := E) (Q₁ := fun obj z => ∃ led, obj = .ref s.heap.objs.size ∧ z = { s with heap := s.heap.push (freshSet led) }) fun led => ⟨led, rfl, rfl⟩) fun r z hr => ?_
  cases r with
  | error e => exact hr
  | ok fl =>
    cases fl with
    | ret obj =>
      obtain ⟨led, rfl, rfl⟩ := hr
      have g1 : (s.heap.push (freshSet led)).get? s.heap.objs.size = some (freshSet led) := Heap.get?_push_size _ rfl
      have g2 : Shared.TypeIs { s with heap := s.heap.push (freshSet led) } (.ref s.heap.objs.size) "set" := ⟨_, g1, rfl⟩
      have g3 := F.called_set.init.lookup
      have g4 := F.called_set.init.bind (.ref s.heap.objs.size)
      repeat (any_goals (first | assumption | wp_step))
      refine codeAny_mono (codeAny_call_builtin (R := InitR s H E) F.called_set.init.plain F.entry_set_init (check_set_init_1 g2 ?_)) fun r z hz => ?_
      · exact hu led
      · cases r with
        | error e => exact hz
        | ok fl =>
          cases fl with
          | ret r =>
            obtain ⟨rfl, h', tk, rfl, h1, h2⟩ := hz
            repeat (any_goals (first | assumption | wp_step))
            exact h _ _ h1 h2
          | _ => exact hz.elim
    | _ => exact hr.elim
open PySem.Calls in
set_option maxHeartbeats 3200000 in
theorem set_call {prog : Program} {w : World} {A : Around} {E : Value → Shared → Prop} {s : Shared} {l : Addr} {vs : List Value} {ys : List (List Nat)} {Q : Value → Shared → Prop} (hh : A.handled = none) (hl : s.heap.IsList l vs.toArray) (hi : StrsAre vs ys) (hb : ys.length + 1 < scanBound)
    (h : ∀ (h' : Heap) (tk : Nat), Holds prog w h' s.heap.objs.size (ys.map S) → (∀ b o, b < s.heap.objs.size → s.heap.get? b = some o → h'.get? b = some o) → Q (.ref s.heap.objs.size) { s with heap := h', toks := tk }) :
    wpAny (model prog w) A (call (.type "set") [.ref l]) Q E s := by
  refine set_gen (H := fun h' => Holds prog w h' s.heap.objs.size (ys.map S)) (fun led => ?_) h
  have g1 : (s.heap.push (freshSet led)).get? s.heap.objs.size = some (freshSet led) := Heap.get?_push_size _ rfl
  have g2 : Shared.TypeIs { s with heap := s.heap.push (freshSet led) } (.ref s.heap.objs.size) "set" := ⟨_, g1, rfl⟩
  obtain ⟨⟨oc, od, ox, os⟩, ho, hc, nl, hd⟩ := hl
  simp only at hc hd
  subst hc; subst hd
  have ho' : (s.heap.push (freshSet led)).get? l = some { cls := .type "list", dict := od, data := .seq vs.toArray nl, slots := os } := Heap.get?_push_of_some _ ho
  have f1 := F.sub_list_set
  have f2 := F.sub_list_frozenset
  have f3 : (Value.type "list" == Value.type "dict") = false := by decide
  have hl1 : (s.heap.push (freshSet led)).IsList l vs.toArray := ⟨_, ho', rfl, nl, rfl⟩
  unfold Builtin.«set.__init__» noKeywords Builtin.Frozenset.updateFrom
  generalize hPI : pyIter = PI
  wp_walk
  subst hPI
  refine wpAny_pyIter_list hl1 (wpAny_bind (wpAny_runValue ?_))
  have hlt : l < s.heap.objs.size := Heap.lt_size ho
  have hsz : (s.heap.push (freshSet led)).objs.size = s.heap.objs.size + 1 := Heap.size_push ..
  have hlen : vs.toArray.size = ys.length := by rw [List.size_toArray, hi.length]
  refine set_loop ((Walks.list (show A.in1.in1.in1.handled = none by simp [hh]) _ l (by rw [hsz]; exact Nat.ne_of_lt (Nat.lt_succ_of_lt hlt)) vs.toArray).toS) s.heap.objs.size (by rw [hsz]; simp only [List.mem_cons, List.not_mem_nil, or_false, not_or]; exact ⟨Nat.ne_of_lt (Nat.lt_succ_self _), Nat.ne_of_gt hlt⟩) (ys.map S) (by rw [List.length_map, hlen])
    (fun i v hv => ?_) (by rw [hlen]; exact hb) vs.toArray.size 0 _ (Nat.zero_add _) ⟨⟨_, Heap.get?_push_size _ rfl, rfl, rfl⟩, hl1.push _⟩ ?_ fun z hm hz => ?_
  · obtain ⟨x, t, rfl, hx⟩ := strs_at hi (by simpa using hv)
    exact ⟨S x, t, by rw [List.getElem?_map, hx]; rfl, rfl⟩
  · refine ⟨0, Nat.zero_le _, ?_⟩
    exact SetOf_congr ((setObjOf_fresh (knd := strKind prog w) led).setOf (Heap.get?_push_of_some _ g1) (by unfold scanBound; omega)) (fun _ => by simp) rfl
  · obtain ⟨h', g', d', tk', os'⟩ := z
    obtain rfl : g' = s.gens := hm.gens
    obtain rfl : d' = s.drawn := hm.drawn
    obtain rfl : os' = s.os := hm.os
    show wpAny _ _ _ _ _ _
    refine wpAny_pure ?_
    show wpAny _ _ (ret Value.none) _ _ _
    refine wpAny_pure ⟨rfl, h', tk', rfl, hz, fun b o hb e => hm.heap b o ?_ (Heap.get?_push_of_some _ (Heap.get?_push_of_some _ e))⟩
    rw [hsz]; simp only [List.mem_cons, List.not_mem_nil, or_false, not_or]; exact ⟨Nat.ne_of_lt hb, Nat.ne_of_lt (Nat.lt_succ_of_lt hb)⟩
end
section
open PySem PySem.W PyProof.Rows PySem.Calls
theorem S_inj2 {a b : List Nat} : S a = S b ↔ a = b := ⟨fun e => by simpa [S] using e, fun e => by rw [e]⟩
theorem mem_S {x : List Nat} {ys : List (List Nat)} : S x ∈ ys.map S ↔ x ∈ ys :=
  ⟨fun h => by obtain ⟨y, hy, e⟩ := List.mem_map.mp h; rw [← S_inj2.mp e]; exact hy, fun h => List.mem_map_of_mem h⟩
noncomputable def SetO (prog : Program) (w : World) (o : Obj) (ys : List (List Nat)) : Prop := ∃ c, c ≤ ys.length ∧ o.SetObjOf (strKind prog w) (fun y => decide (y ∈ ys.map S)) c
section
variable {prog : Program} {w : World} {A : Around} {E : Value → Shared → Prop} {s : Shared} {h₀ : Heap} {L : Addr} {m : PySem.Str → Option Value} {news : List (Addr × Obj)} {Q : Value → Shared → Prop}
theorem set_N {l : Addr} {vs : List Value} {ys : List (List Nat)} (hh : A.handled = none) (F : Fr h₀ L s.heap m) (N : News h₀ L s.heap news) (hl : s.heap.IsList l vs.toArray) (hi : StrsAre vs ys) (hb : ys.length ≤ 100)
    (h : ∀ D o h' tk, Fr h₀ L h' m → News h₀ L h' ((D, o) :: news) → (∀ p ∈ news, p.1 < D) → SetO prog w o ys → Q (.ref D) { s with heap := h', toks := tk }) :
    wpAny (model prog w) A (call (.type "set") [.ref l]) Q E s := by
  refine set_call hh hl hi (by unfold scanBound; omega) fun h' tk ⟨c, hc, hS⟩ hk => ?_
  obtain ⟨o, ho, hso⟩ := hS.objOf
  obtain ⟨oL, _, _, hL, _⟩ := F.ns
  have hLlt : L < s.heap.objs.size := Heap.lt_size hL
  refine h _ o h' tk ⟨F.ns.at' fun o' e => hk L o' hLlt e, fun b o' e => hk b o' (Heap.lt_size (F.keep b o' e)) (F.keep b o' e), F.above⟩ (fun p hp => ?_) (fun p hp => Heap.lt_size (N p hp).1) ⟨c, by rw [List.length_map] at hc; exact hc, hso⟩
  rcases List.mem_cons.mp hp with rfl | hp
  · refine ⟨ho, Nat.ne_of_gt hLlt, ?_⟩
    cases hq : h₀.get? s.heap.objs.size with
    | none => rfl
    | some o' => exact absurd (Heap.lt_size (F.keep _ _ hq)) (Nat.lt_irrefl _)
  · exact ⟨hk _ _ (Heap.lt_size (N p hp).1) (N p hp).1, (N p hp).2.1, (N p hp).2.2⟩
theorem r_inSet {D : Addr} {o : Obj} {x : List Nat} {t : Tok} {ys : List (List Nat)} (N : News h₀ L s.heap news) (hm : (D, o) ∈ news) (ho : SetO prog w o ys) (hb : ys.length ≤ 100) (h : ∀ tk, Q (.bool (decide (x ∈ ys))) { s with toks := tk }) :
    wpAny (model prog w) A (compareOp .In (.str (S x) t) (.ref D)) Q E s := by
  obtain ⟨c, hc, hso⟩ := ho
  refine wpAny_inSet_of (knd := strKind prog w) (strKind_is _ _ _ _) rfl (hso.setOf (N _ hm).1 (by unfold scanBound; omega)) ?_
  have := h (s.toks + 1)
  simpa only [mem_S] using this
theorem r_notInSet {D : Addr} {o : Obj} {x : List Nat} {t : Tok} {ys : List (List Nat)} (N : News h₀ L s.heap news) (hm : (D, o) ∈ news) (ho : SetO prog w o ys) (hb : ys.length ≤ 100) (h : ∀ tk, Q (.bool (!decide (x ∈ ys))) { s with toks := tk }) :
    wpAny (model prog w) A (compareOp .NotIn (.str (S x) t) (.ref D)) Q E s := by
  obtain ⟨c, hc, hso⟩ := ho
  refine wpAny_notInSet_of (knd := strKind prog w) (strKind_is _ _ _ _) rfl (hso.setOf (N _ hm).1 (by unfold scanBound; omega)) ?_
  have := h (s.toks + 1)
  simpa only [mem_S] using this
end
end
section
open PySem PySem.W PyProof.Rows PySem.Calls
noncomputable def ltP (p q : Int × List Nat) : Bool := decide (p.1 < q.1) || (decide (p.1 = q.1) && decide (p.2 < q.2))
noncomputable abbrev pairO (p : Int × List Nat) (t u : Tok) : Obj := tupObj [.int p.1 t, .str (S p.2) u]
section
variable {prog : Program} {w : World} {A : Around} {E : Value → Shared → Prop} {s : Shared} {a b : Addr} {p q : Int × List Nat} {t u t' u' : Tok}
theorem lt_tree {P : Fin → Shared → Prop} (ha : s.heap.get? a = some (pairO p t u)) (hb : s.heap.get? b = some (pairO q t' u')) (h : P (.done (.ret (.bool (ltP p q)))) s) :
    wpAny (model prog w) A (Builtin.«tuple.__lt__» ⟨[.ref a, .ref b], []⟩) P E s := by
  have hTb : s.TypeIs (.ref b) "tuple" := ⟨_, hb, rfl⟩
  show wpAny _ _ (isInstance (.ref b) (.type "tuple") >>= _) _ _ s
  refine wpAny_bind (wpAny_isInstance hTb isSubtype_tuple_tuple ?_)
  simp only [Bool.not_true, Bool.false_eq_true, if_false]
  refine wpAny_bind (wpAny_tupleItemsOf ha rfl ?_)
  refine wpAny_bind (wpAny_tupleItemsOf hb rfl ?_)
  refine wpAny_bind ?_
  show wpAny _ _ (forIn [(Value.int p.1 t, Value.int q.1 t'), (Value.str (S p.2) u, Value.str (S q.2) u')] _ _) _ _ _
  rw [List.forIn_cons]
  refine wpAny_bind (wpAny_bind (wpAny_eqBool_int ?_))
  by_cases e1 : p.1 = q.1
  · rw [beq_iff_eq.mpr e1]
    simp only [Bool.not_true, Bool.false_eq_true, if_false]
    refine wpAny_pure ?_
    dsimp only
    rw [List.forIn_cons]
    refine wpAny_bind (wpAny_bind (eqBool_str ?_))
    by_cases e2 : p.2 = q.2
    · rw [show (S p.2 == S q.2) = true by rw [beq_iff_eq, e2]]
      simp only [Bool.not_true, Bool.false_eq_true, if_false]
      refine wpAny_pure ?_
      dsimp only
      rw [List.forIn_nil]
      refine wpAny_pure ?_
      dsimp only
      have hl : ltP p q = false := by simp [ltP, e1, e2]
      rw [hl] at h
      exact wpAny_pure h
    · rw [show (S p.2 == S q.2) = false by rw [beq_eq_false_iff_ne]; exact fun e => e2 (S_inj.mp e)]
      simp only [Bool.not_false, if_true]
      refine wpAny_bind (wpAny_rule (wpAny_bind (show wpAny _ _ (compareOp .Lt _ _) _ _ _ from lt_str (wpAny_bind (wpAny_pure (wpAny_pure (wpAny_pure (wpAny_pure ?_)))))))) 
      have hl : ltP p q = decide (p.2 < q.2) := by simp [ltP, e1]
      rw [hl] at h
      have e : decide ((S p.2).cps.toList < (S q.2).cps.toList) = decide (p.2 < q.2) := decide_eq_decide.mpr Iff.rfl
      show P (.done (.ret (.bool (decide ((S p.2).cps.toList < (S q.2).cps.toList))))) s
      rw [e]
      exact h
  · rw [beq_eq_false_iff_ne.mpr e1]
    simp only [Bool.not_false, if_true]
    refine wpAny_bind (wpAny_rule (wpAny_bind (show wpAny _ _ (compareOp .Lt _ _) _ _ _ from wpAny_lt_int (wpAny_bind (wpAny_pure (wpAny_pure (wpAny_pure (wpAny_pure ?_))))))))
    have hl : ltP p q = decide (p.1 < q.1) := by simp [ltP, e1]
    rw [hl] at h
    exact h
theorem r_ltPair {Q : Value → Shared → Prop} (ha : s.heap.get? a = some (pairO p t u)) (hb : s.heap.get? b = some (pairO q t' u')) (hu : A.units < cLine) (h : Q (.bool (ltP p q)) s) :
    wpAny (model prog w) A (richCompare .Lt (.ref a) (.ref b)) Q E s :=
  wpAny_richCompare_same_room (op := .Lt) (T := "tuple") ⟨_, ha, rfl⟩ ⟨_, hb, rfl⟩ F.slot_tuple_lt
    (wpAny_call_entry F.slot_tuple_lt ⟨_, ha, rfl⟩ F.entry_tuple_lt (lt_tree ha hb ⟨_, rfl, (fun e => nomatch e), h⟩) (F.args_tuple_lt_2 _ _)) hu
end
end
section
open PySem PySem.W PyProof.Rows PySem.Calls
section
variable {prog : Program} {w : World} {A : Around} {R : Result → Shared → Prop} {I a : Addr} {fp wr : List Addr} {n : Nat} {P : Nat → Value → Prop} {St : Nat → Heap → Prop} {K : Heap → Prop} {bt : Nat → Nat → Bool}
theorem min_from (W : Walks prog w A.in1 I fp wr n P St) (haf : a ∉ fp) (hK : ∀ h h', K h → (∀ b o, b ∉ wr → b ≠ a → h.get? b = some o → h'.get? b = some o) → K h')
    (cmp : ∀ i j vi vj (s : Shared) (Q : Value → Shared → Prop) (E : Value → Shared → Prop), K s.heap → P i vi → P j vj → Q (.bool (bt i j)) s → wpAny (model prog w) A.in1 (richCompare .Lt vi vj) Q E s) :
    ∀ (k j : Nat) (s : Shared) (vb : Value) (c : Nat), j + 1 + k = n → St (j + 1) s.heap → K s.heap → P (argBest bt j) vb → s.heap.get? a = some { cls := .type "list", dict := none, data := .seq #[vb, vb] c, slots := #[] } →
      (∀ v h' tk, P (argBest bt (n - 1)) v → (∀ b o, b ∉ wr → b ≠ a → s.heap.get? b = some o → h'.get? b = some o) → R (.ok (.ret v)) { s with heap := h', toks := tk }) → codeAny (model prog w) A (.builtin "min.loop" ⟨[.ref I, .none, .ref a], []⟩) R s := by
  have haw : a ∉ wr := fun h => haf (W.sub _ h)
  have hname : (toString "min" ++ toString ".loop" : String) = "min.loop" := by decide
  intro k
  induction k with
  | zero =>
    intro j s vb c hk hst hKs hP ha hR
    obtain rfl : j + 1 = n := by omega
    refine codeAny_builtin F.entry_min_loop ?_
    rw [Around.under_plainId F.plain_min_loop _]
    show wpAny _ A.in1 (seqItems? (.ref a) >>= _) _ _ s
    refine wpAny_bind (wpAny_seqItems ha rfl ?_)
    show wpAny _ A.in1 (tryCatch (pyNext (.ref I)) _ >>= _) _ _ s
    refine wpAny_bind (wpAny_tryCatch (W.done s _ _ hst fun h' tk hk' => ?_))
    show wpAny _ A.in1 (updateSeq a (fun _ => #[]) >>= _) _ _ _
    exact wpAny_bind (wpAny_updateSeq (hk' a _ haw ha) rfl (wpAny_bind (wpAny_letGo (wpAny_pure (hR vb _ tk hP fun b o hb hba e => (Heap.get?_update_other _ _ (Ne.symm hba)).trans (hk' b o hb e))))))
  | succ k ih =>
    intro j s vb c hk hst hKs hP ha hR
    refine codeAny_builtin F.entry_min_loop ?_
    rw [Around.under_plainId F.plain_min_loop _]
    show wpAny _ A.in1 (seqItems? (.ref a) >>= _) _ _ s
    refine wpAny_bind (wpAny_seqItems ha rfl ?_)
    show wpAny _ A.in1 (tryCatch (pyNext (.ref I)) _ >>= _) _ _ s
    refine wpAny_bind (wpAny_tryCatch (W.item (j + 1) s _ _ (by omega) hst fun v h' tk hv hst' hk' => ?_))
    have hK' := hK _ h' hKs fun b o hb _ e => hk' b o hb e
    have ha' := hk' a _ haw ha
    show wpAny _ A.in1 (tryCatch (holding [v, v] (richCompare .Lt v vb >>= _)) _ >>= _) _ _ _
    refine wpAny_bind (wpAny_tryCatch (wpAny_holding (wpAny_bind (cmp (j + 1) (argBest bt j) v vb _ _ _ hK' hv hP (wpAny_bind (wpAny_holding (wpAny_truthy_bool (wpAny_bind (wpAny_letGo (wpAny_pure ?_))))))))))
    cases hb : bt (j + 1) (argBest bt j) with
    | true =>
      simp only [if_true]
      refine wpAny_bind (wpAny_updateSeq ha' rfl (wpAny_bind (wpAny_letGo ?_)))
      have old : ∀ x b o, b ∉ wr → b ≠ a → s.heap.get? b = some o → (h'.update a x).get? b = some o := fun x b o hbw hba e => (Heap.get?_update_other _ _ (Ne.symm hba)).trans (hk' b o hbw e)
      rw [hname]
      refine wpAny_pure ⟨plainId_quiet F.plain_min_loop _, ih (j + 1) _ v _ (by omega) (W.frame _ _ _ hst' fun b hbf o e => (Heap.get?_update_other _ _ (fun h : a = b => haf (by rw [h]; exact hbf))).trans e) (hK _ _ hKs (old _)) (by simp only [argBest, hb, if_true]; exact hv)
        (Heap.get?_update_self _ ha' rfl) fun v' h'' tk'' hP' hk'' => hR v' h'' tk'' hP' fun b o hbw hba e => hk'' b o hbw hba (old _ b o hbw hba e)⟩
    | false =>
      simp only [Bool.false_eq_true, if_false]
      refine wpAny_bind (wpAny_letGo ?_)
      rw [hname]
      exact wpAny_pure ⟨plainId_quiet F.plain_min_loop _, ih (j + 1) _ vb c (by omega) hst' hK' (by simp only [argBest, hb, Bool.false_eq_true, if_false]; exact hP) ha' fun v' h'' tk'' hP' hk'' =>
        hR v' h'' tk'' hP' fun b o hbw hba e => hk'' b o hbw hba (hk' b o hbw e)⟩
theorem min_call {A : Around} {E : Value → Shared → Prop} {s : Shared} {x : Value} {Q : Value → Shared → Prop}
    (h : wpAny (model prog w) A.in1 (pyIter x) (fun it s₂ => ∃ (I : Addr) (fp wr : List Addr) (n : Nat) (P : Nat → Value → Prop) (St : Nat → Heap → Prop) (bt : Nat → Nat → Bool) (K : Heap → Prop), it = .ref I ∧ Walks prog w A.in1 I fp wr n P St ∧ St 0 s₂.heap ∧ (∀ b ∈ fp, b < s₂.heap.objs.size) ∧ 0 < n ∧ K s₂.heap ∧ (∀ h h' : Heap, K h → (∀ b o, b ∉ wr → b < s₂.heap.objs.size → h.get? b = some o → h'.get? b = some o) → K h') ∧
      (∀ i j vi vj (s : Shared) (Q : Value → Shared → Prop) (E : Value → Shared → Prop), K s.heap → P i vi → P j vj → Q (.bool (bt i j)) s → wpAny (model prog w) A.in1 (richCompare .Lt vi vj) Q E s) ∧
      ∀ v h' tk, P (argBest bt (n - 1)) v → (∀ b o, b ∉ wr → s₂.heap.get? b = some o → h'.get? b = some o) → Q v { s₂ with heap := h', toks := tk }) E s) :
    wpAny (model prog w) A (call (.builtin "min") [x]) Q E s := by
  have hname : (toString "min" ++ toString ".loop" : String) = "min.loop" := by decide
  refine call_function_tree F.kind_min F.plain_min F.entry_min (F.args_min1 _) ?_
  show wpAny _ A.in1 (Builtin.Builtins.bindParams "min" ["key", "default"] 0 ⟨[], []⟩ >>= _) _ _ s
  refine wpAny_bind (wpAny_of_eq (show Builtin.Builtins.bindParams "min" ["key", "default"] 0 ⟨[], []⟩ = pure [none, none] from rfl) (wpAny_bind (wpAny_pure (wpAny_bind (wpAny_mono h (fun it s₂ h₂ => ?_) fun _ _ e => e)))))
  obtain ⟨I, fp, wr, n, P, St, bt, K, rfl, W, hst, hfp, hn, hK0, hK, cmp, hQ⟩ := h₂
  refine wpAny_bind (wpAny_newObj_type ?_)
  have haf : s₂.heap.objs.size ∉ fp := fun hm => Nat.lt_irrefl _ (hfp _ hm)
  have haw : s₂.heap.objs.size ∉ wr := fun h => haf (W.sub _ h)
  have hKn : ∀ h h', K h → (∀ b o, b ∉ wr → b ≠ s₂.heap.objs.size → h.get? b = some o → h'.get? b = some o) → K h' := fun h h' k e => hK h h' k fun b o hb hlt => e b o hb (Nat.ne_of_lt hlt)
  have hKp : ∀ o, K (s₂.heap.push o) := fun o => hK _ _ hK0 fun b o' _ _ e => Heap.get?_push_of_some _ e
  rw [hname]
  refine wpAny_pure ⟨plainId_quiet F.plain_min_loop _, codeAny_builtin F.entry_min_loop ?_⟩
  rw [Around.under_plainId F.plain_min_loop _]
  show wpAny _ A.in1 (seqItems? (.ref s₂.heap.objs.size) >>= _) _ _ _
  refine wpAny_bind (wpAny_seqItems (Heap.get?_push_size _ rfl) rfl ?_)
  show wpAny _ A.in1 (tryCatch (pyNext (.ref I)) _ >>= _) _ _ _
  refine wpAny_bind (wpAny_tryCatch (W.item 0 _ _ _ hn (W.frame _ _ _ hst fun b _ o e => Heap.get?_push_of_some _ e) fun v h' tk hv hst' hk' => ?_))
  have ha' := hk' _ _ haw (Heap.get?_push_size s₂.heap rfl)
  show wpAny _ A.in1 (updateSeq s₂.heap.objs.size (fun _ => #[v, v]) >>= _) _ _ _
  refine wpAny_bind (wpAny_updateSeq ha' rfl ?_)
  have old : ∀ x b o, b ∉ wr → b ≠ s₂.heap.objs.size → s₂.heap.get? b = some o → (h'.update s₂.heap.objs.size x).get? b = some o := fun x b o hbw hba e => (Heap.get?_update_other _ _ (Ne.symm hba)).trans (hk' b o hbw (Heap.get?_push_of_some _ e))
  rw [hname]
  exact wpAny_pure ⟨plainId_quiet F.plain_min_loop _, min_from W haf hKn cmp (n - 1) 0 _ v _ (by omega) (W.frame _ _ _ hst' fun b hbf o e => (Heap.get?_update_other _ _ (fun h : s₂.heap.objs.size = b => haf (by rw [h]; exact hbf))).trans e) (hKn _ _ hK0 (old _)) hv
    (Heap.get?_update_self _ ha' rfl) fun v' h'' tk'' hP' hk'' => hQ v' h'' tk'' hP' fun b o hbw e => hk'' b o hbw (Nat.ne_of_lt (Heap.lt_size e)) (old _ b o hbw (Nat.ne_of_lt (Heap.lt_size e)) e)⟩
end
end
section
open PySem PySem.W PyProof.Rows PySem.Calls
inductive PairsAre : List Value → List (Addr × Obj) → List (Int × List Nat) → Prop
  | nil : PairsAre [] [] []
  | snoc {vs : List Value} {tl : List (Addr × Obj)} {l : List (Int × List Nat)} (T : Addr) (p : Int × List Nat) (t u : Tok) : PairsAre vs tl l → PairsAre (vs ++ [.ref T]) ((T, pairO p t u) :: tl) (l ++ [p])
theorem PairsAre.length {vs : List Value} {tl : List (Addr × Obj)} {l : List (Int × List Nat)} (h : PairsAre vs tl l) : vs.length = l.length := by
  induction h with
  | nil => rfl
  | snoc _ _ _ _ _ ih => simp [ih]
theorem PairsAre.at {vs : List Value} {tl : List (Addr × Obj)} {l : List (Int × List Nat)} (h : PairsAre vs tl l) : ∀ {i : Nat} {v : Value}, vs[i]? = some v → ∃ T p t u, v = .ref T ∧ l[i]? = some p ∧ (T, pairO p t u) ∈ tl := by
  induction h with
  | nil => intro i v e; cases e
  | @snoc vs tl l T p t u h ih =>
    intro i v e
    by_cases hi : i < vs.length
    · rw [List.getElem?_append_left hi] at e
      obtain ⟨T', p', t', u', e1, e2, e3⟩ := ih e
      exact ⟨T', p', t', u', e1, by rw [List.getElem?_append_left (by rw [← h.length]; exact hi)]; exact e2, .tail _ e3⟩
    · have hil : i = vs.length := by
        have := (List.getElem?_eq_some_iff.mp e).1
        rw [List.length_append, List.length_singleton] at this
        omega
      subst hil
      rw [List.getElem?_concat_length] at e
      cases e
      exact ⟨T, p, t, u, rfl, by rw [h.length, List.getElem?_concat_length], .head _⟩
noncomputable def minP (l : List (Int × List Nat)) : Int × List Nat := l.getD (argBest (fun i j => ltP (l.getD i (0, [])) (l.getD j (0, []))) (l.length - 1)) (0, [])
section
variable {prog : Program} {w : World} {A : Around} {E : Value → Shared → Prop} {s : Shared} {h₀ : Heap} {L : Addr} {m : PySem.Str → Option Value} {news : List (Addr × Obj)} {Q : Value → Shared → Prop}
theorem r_min {l : Addr} {vs : List Value} {tl : List (Addr × Obj)} {ps : List (Int × List Nat)} (hh : A.handled = none) (F : Fr h₀ L s.heap m) (N : News h₀ L s.heap news) (hl : s.heap.IsList l vs.toArray) (hp : PairsAre vs tl ps) (ht : ∀ q ∈ tl, q ∈ news) (hne : ps ≠ []) (hu : A.units + 1 < cLine)
    (h : ∀ T t u h' tk, Fr h₀ L h' m → News h₀ L h' news → (T, pairO (minP ps) t u) ∈ tl → Q (.ref T) { s with heap := h', toks := tk }) :
    wpAny (model prog w) A (call (.builtin "min") [.ref l]) Q E s := by
  have hlt : l < s.heap.objs.size := by obtain ⟨o, ho, _⟩ := hl; exact Heap.lt_size ho
  have hsz : vs.toArray.size = ps.length := by rw [List.size_toArray, hp.length]
  refine min_call (wpAny_pyIter_list hl ?_)
  refine ⟨_, _, _, _, _, _, fun i j => ltP (ps.getD i (0, [])) (ps.getD j (0, [])), fun h => ∀ q ∈ tl, h.get? q.1 = some q.2, rfl, Walks.list (A := A.in1) hh _ l (Nat.ne_of_lt hlt) vs.toArray, ⟨⟨_, Heap.get?_push_size _ rfl, rfl, rfl⟩, hl.push _⟩, ?_, ?_, ?_, ?_, ?_, ?_⟩
  · intro b hb
    show b < (s.heap.push _).objs.size
    rw [Heap.size_push]
    simp only [List.mem_cons, List.not_mem_nil, or_false] at hb
    rcases hb with rfl | rfl
    · exact Nat.lt_succ_self _
    · exact Nat.lt_succ_of_lt hlt
  · rw [hsz]; exact List.length_pos_iff.mpr hne
  · intro q hq
    exact Heap.get?_push_of_some _ (N q (ht q hq)).1
  · intro h h' k e q hq
    have hq1 := Heap.lt_size (N q (ht q hq)).1
    refine e _ _ (fun hm => ?_) ?_ (k q hq)
    · rw [List.mem_singleton] at hm
      exact absurd hm (Nat.ne_of_lt hq1)
    · show q.1 < (s.heap.push _).objs.size
      rw [Heap.size_push]; exact Nat.lt_succ_of_lt hq1
  · intro i j vi vj s' Q' E' k hi hj hQ
    obtain ⟨T, p, t, u, rfl, e1, e2⟩ := hp.at (by simpa using hi)
    obtain ⟨T', p', t', u', rfl, e3, e4⟩ := hp.at (by simpa using hj)
    dsimp only at hQ
    rw [List.getD_eq_getElem?_getD, List.getD_eq_getElem?_getD, e1, e3] at hQ
    exact r_ltPair (k _ e2) (k _ e4) (by simpa [Around.in1] using hu) hQ
  · intro v h' tk hv hk
    rw [List.getElem?_toArray] at hv
    obtain ⟨T, p, t, u, rfl, e1, e2⟩ := hp.at hv
    have ep : minP ps = p := by
      unfold minP
      rw [← hsz, List.getD_eq_getElem?_getD, e1]; rfl
    have hk2 : ∀ b o, s.heap.get? b = some o → h'.get? b = some o := fun b o e => hk b o (fun hm => by rw [List.mem_singleton] at hm; exact absurd hm (Nat.ne_of_lt (Heap.lt_size e))) (Heap.get?_push_of_some _ e)
    exact h T t u h' tk (F.grownK hk2) (N.grown hk2) (by rw [ep]; exact e2)
end
end
section
open PySem PySem.W PyProof.Rows PySem.Calls
noncomputable def datP (p : Int × List Nat) : PyData := .tuple [.int p.1, .str (S p.2)]
theorem PairsAre.reads {h : Heap} {vs : List Value} {tl : List (Addr × Obj)} {l : List (Int × List Nat)} (hf : PairsAre vs tl l) (N : ∀ q ∈ tl, h.get? q.1 = some q.2) : ReadsAll h vs (l.map datP) [] := by
  induction hf with
  | nil => exact .nil
  | @snoc vs tl l T p t u h ih =>
    have rt : Reads _ (.ref T) (datP p) [] := .tuple (N _ (.head _)) rfl rfl (.cons (.int _ _) (.cons (.str _ _) .nil))
    rw [List.map_append]
    exact readsAll_app (ih fun q hq => N q (.tail _ hq)) (.cons rt .nil)
theorem datP_lay : ∀ l : List (Int × List Nat), (∀ p ∈ l, p.2.all (· < 0x110000) = true) → PyData.canLayAll0 (l.map datP) = true
  | [], _ => rfl
  | p :: r, h => by
    have h1 : PyData.strOk (S p.2) = true := by
      have := h p (.head _)
      simpa [PyData.strOk, S] using this
    have h4 := datP_lay r fun y hy => h y (.tail _ hy)
    simp only [List.map_cons, PyData.canLayAll0, datP, PyData.canLay0, h1, h4, Bool.and_self]
theorem datP_depth : ∀ l : List (Int × List Nat), PyData.depthAll (l.map datP) ≤ 2
  | [] => by simp [PyData.depthAll]
  | p :: r => by
    have := datP_depth r
    simp [PyData.depthAll, PyData.depth, datP]
    omega
theorem datP_shaped {l : List (Int × List Nat)} (h : ∀ p ∈ l, p.2.all (· < 0x110000) = true) : SeqAt.shaped (.list (l.map datP)) = true := by
  have h1 := datP_lay l h
  have h2 := datP_depth l
  refine Bool.and_eq_true_iff.mpr ⟨by rw [PyData.canLay0]; exact h1, decide_eq_true ?_⟩
  rw [PyData.depth]
  omega
section
variable {prog : Program} {w : World} {A : Around} {E : Value → Shared → Prop} {s : Shared} {h₀ : Heap} {L : Addr} {a b : Addr} {va : List Value} {ta news : List (Addr × Obj)} {la : List (Int × List Nat)} {Q : Value → Shared → Prop}
theorem r_eqNil (ha : s.heap.IsList a va.toArray) (hb : s.heap.IsList b ([] : List Value).toArray) (fa : PairsAre va ta la) (N : News h₀ L s.heap news) (sa : ∀ q ∈ ta, q ∈ news) (oa : ∀ p ∈ la, p.2.all (· < 0x110000) = true) (hu : A.units + 64 < cLine)
    (h : Q (.bool (decide (la = []))) s) : wpAny (model prog w) A (compareOp .Eq (.ref a) (.ref b)) Q E s := by
  obtain ⟨o, ho, hc, n, hd⟩ := ha
  obtain ⟨o2, ho2, hc2, n2, hd2⟩ := hb
  refine SeqAt.compareEq_shaped (da := .list (la.map datP)) (db := .list []) (.list ho hc hd (fa.reads fun q hq => (N q (sa q hq)).1)) (.list ho2 hc2 hd2 .nil) (datP_shaped oa) (by decide +kernel) hu ?_
  have e : PyData.eqv (.list (la.map datP)) (.list []) = decide (la = []) := by
    rw [PyData.eqv]
    cases la <;> simp [PyData.eqvAll]
  rw [e]; exact h
end
end
section
open PySem PySem.W PyProof.Rows PySem.Calls
section
variable {prog : Program} {w : World} {A : Around} {E : Value → Shared → Prop} {s : Shared} {h₀ : Heap} {L : Addr} {m : PySem.Str → Option Value} {env : Env}
noncomputable def CompSrcST (prog : Program) (w : World) (A : Around) (h₀ : Heap) (L : Addr) (m : PySem.Str → Option Value) (env : Env) (ct elt : Expr) (x : PySem.Str) (scope : Scope) (cl : List (PySem.Str × Addr)) (Fin : Shared → List Value → List (Addr × Obj) → Prop) (xv : Value) (s₁ : Shared) : Prop :=
  ∃ (l : List Nat) (t : Tok) (news : List (Addr × Obj)), xv = .str (S l) t ∧ A.handled = none ∧ Fr h₀ L s₁.heap m ∧ News h₀ L s₁.heap news ∧ l.length ≤ 1000000 ∧
    ∀ s₂ : Shared, (∃ h, s₂ = { s₁ with heap := h }) → LCt.CompRestT prog w A h₀ L m env ct elt x scope cl s₂ (fun _ => True) (SignAt (S l)) (Fin s₂) l.length 0 [] news
theorem Assign_ListComp_ST {ct elt iter : Expr} {x y : PySem.Str} {px py : Pos} {scope : Scope} {cl : List (PySem.Str × Addr)} {pos spos : Pos} {Q : Flow → Shared → Prop} (_F₀ : Fr h₀ L s.heap m) (hLe : env.locals = L)
    (hsw : swapsWith (.ListComp elt [⟨.Name x px, iter, [ct], 0⟩] scope pos) (some (.Name y py)) spos.line env = pure true)
    (hclos : closureFor scope env = pure cl) (hcell : ∀ z ∈ scope.names, z.2 ≠ .cell) (hkind : scope.kind = .function)
    (hnames : ∀ z ∈ scope.names, z.2 = .local → scope.names.lookup z.1 = some .local) (hx : scope.names.lookup x = some .local)
    (hy : env.kindOf y = some .local) (hp : (env.scope.kind == .class || (env.scope.kind == .module && env.locals != env.globals)) = false)
    (h : wpAny (model prog w) A (eval iter env) (CompSrcST prog w A h₀ L m env ct elt x scope cl (fun s₂ => LCg.FinA h₀ L m s₂ y Q)) E s)
    (hs : ∀ x, foldedSetIterable iter env x = pure x := by intro _; rfl) :
    wpAny (model prog w) A (exec (.Assign [.Name y py] (.ListComp elt [⟨.Name x px, iter, [ct], 0⟩] scope pos) spos) env) Q E s := by
  subst hLe
  rw [exec_Assign_Name_used _ _ _ _ hsw]
  refine wpAny_bind (wpAny_standAt (wpAny_bind ?_))
  show wpAny _ A (do let _ ← comprehension (.ListComp elt [⟨.Name x px, iter, [ct], 0⟩] scope pos) scope env _ (newList []) false (eval iter env) (some (assign (.Name y py) env))) _ _ s
  refine wpAny_bind (wpAny_mono (wpAny_comprehension_free (use := some (assign (.Name y py) env)) (Q := fun _ s' => Q .next s') rfl hs hclos hkind hnames
    (wpAny_mono h (fun xv s₁ h₁ => ?_) fun _ _ e => e)) (fun _ s' hq => wpAny_pure (wpAny_pure hq)) fun _ _ e => e)
  obtain ⟨l, t, news, rfl, hh, F, N, hl, R⟩ := h₁
  refine pyIter_strU fun o St W hst hIo hSt => ?_
  have up : ∀ b o', s₁.heap.get? b = some o' → (s₁.heap.push o).get? b = some o' := fun b o' e => Heap.get?_push_of_some _ e
  refine LCt.block_T (by have := W A hh; rw [S_size] at this; exact this) (by rw [sizeLine_eq]; omega) hIo (fun i h h' o nw st e e' _ _ _ => hSt i h h' o st e e') hcell hkind hx hst (fun b hb => ?_)
    (F.keeps up) (N.grown up) (Nat.ne_of_lt F.ns.lt) (next_is_new F) (fun p hp => Nat.ne_of_lt (Heap.lt_size (N p hp).1)) trivial (R _ ⟨_, rfl⟩) ?_
  · rw [List.mem_singleton.mp hb]
    show s₁.heap.objs.size < (s₁.heap.push _).objs.size
    rw [Heap.size_push]; exact Nat.lt_succ_self _
  · intro D C h' tk m' ys news' F' N' o1 hn hC₀ hD₀ hCL hDL hCD offC fin
    show wpAny _ A (assign (.Name y py) env (.ref D)) _ _ _
    refine wpAny_assign_Name (wpAny_storeName_local hy F'.ns (fun h₂ hn₂ hs₂ => ?_) hp)
    have hL₀ : h₀.get? env.locals = none := Heap.get?_none_of_le F'.above
    have F₂ : Fr h₀ env.locals h₂ (fun z => if z = y then some (.ref D) else m z) := ⟨hn₂, fun b o e => hs₂.extBut b o (fun q => by rw [q, hL₀] at e; cases e) (F'.keep b o e), F'.above⟩
    refine ⟨m', hn.sameBut hs₂ hCL, fun h'' hs'' => fin D h'' _ (F₂.change hs'' hCL hC₀) (fun p hp => ?_) o1⟩
    have z : h₂.get? p.1 = some p.2 := hs₂.extBut _ _ (N' p hp).2.1 (N' p hp).1
    refine ⟨hs''.extBut _ _ ?_ z, (N' p hp).2⟩
    rcases List.mem_cons.mp hp with rfl | hp
    · exact Ne.symm hCD
    · exact offC p hp
theorem r_notinF {c : Nat} {y : List Nat} {t u : Tok} {Q : Value → Shared → Prop} (hT : c ∉ y → Q (.bool true) s) (hF : c ∈ y → Q (.bool false) s) : wpAny (model prog w) A (compareOp .NotIn (.str (S [c]) t) (.str (S y) u)) Q E s := by
  refine SB.notContains ?_
  rw [S_contains1]
  by_cases hm : c ∈ y
  · rw [decide_eq_true hm]; exact hF hm
  · rw [decide_eq_false hm]; exact hT hm
end
section
variable {prog : Program} {w : World} {A : Around} {E : Value → Shared → Prop} {s : Shared} {a b : Addr} {xs : List Value} {l : List Nat} {Q : Value → Shared → Prop}
theorem r_neNilC (ha : s.heap.IsList a xs.toArray) (hb : s.heap.IsList b ([] : List Value).toArray) (hc : CharsAre xs l) (h8 : ∀ c ∈ l, c < 128) (hu : A.units + 64 < cLine)
    (hT : l ≠ [] → Q (.bool true) s) (hF : l = [] → Q (.bool false) s) : wpAny (model prog w) A (compareOp .NotEq (.ref a) (.ref b)) Q E s := by
  refine r_ne_strs ha hb hc.strs .nil (fun x hx => ?_) (fun x hx => by cases hx) hu ?_
  · obtain ⟨c, h1, rfl⟩ := List.mem_map.mp hx
    have := h8 c h1
    simp only [List.all_cons, List.all_nil, Bool.and_true, decide_eq_true_eq]
    omega
  · by_cases e : l = []
    · subst e; exact hF rfl
    · have e2 : (l.map fun c => [c]) ≠ [] := fun h => e (List.map_eq_nil_iff.mp h)
      rw [decide_eq_false e2]; exact hT e
end
noncomputable def ownA (a b : List Nat) : List Nat := a.filter fun c => !decide (c ∈ b)
noncomputable def ownL (a b : List Nat) : List Nat := (ownA a b).take 1
theorem own_sub {a b : List Nat} : ∀ c ∈ ownA a b, c ∈ a := fun _ h => (List.mem_filter.mp h).1
theorem own_yes {a b : List Nat} {i c : Nat} (h : a[i]? = some c) (hn : c ∉ b) : ownA (a.take (i + 1)) b = ownA (a.take i) b ++ [c] := by
  unfold ownA
  rw [List.take_add_one, h, List.filter_append]
  simp [hn]
theorem own_no {a b : List Nat} {i c : Nat} (h : a[i]? = some c) (hn : c ∈ b) : ownA (a.take (i + 1)) b = ownA (a.take i) b := by
  unfold ownA
  rw [List.take_add_one, h, List.filter_append]
  simp [hn]
end
section
open PySem PySem.W PyProof.Rows PySem.Calls PyProof.Rows.LCg
theorem newEnv_C {M : Model} {A : Around} {E : Value → Shared → Prop} {s : Shared} {scope : Scope} {globals : Addr} {cl : List (PySem.Str × Addr)} {x : PySem.Str} {qual : PySem.Str} {code : Value} {builtins : Addr} {outer : Env} {Q : Env → Shared → Prop}
    (hlay : ∀ k, cellsFrom k scope.names cl = (x, k) :: cl) (hpush : ∀ h, pushCells h scope.names = h.push { cls := .type "cell", data := .cell none })
    (hQ : Q (newEnv scope s.heap.objs.size globals ((x, s.heap.objs.size + 1) :: cl) qual none code (some outer) builtins) { s with heap := (s.heap.push { cls := .type "dict", data := .dict #[] }).push { cls := .type "cell", data := .cell none } }) :
    wpAny M A (newFunctionEnv scope globals cl [] qual none code (some outer) builtins) Q E s := by
  simp only [newFunctionEnv, Option.isSome_some, if_true]
  refine wpAny_bind (wpAny_alloc ?_)
  refine wpAny_bind (wpAny_layCells _ (fun name kind cells => by cases hkc : kind == NameKind.cell <;> simp [hkc]) _ _ _ _ ?_)
  rw [hlay, hpush]
  rw [show ({ s with heap := s.heap.push { cls := .type "dict", data := .dict #[] } } : Shared).heap.objs.size = s.heap.objs.size + 1 from Heap.size_push ..]
  refine wpAny_bind ?_
  rw [List.forIn_nil]
  exact wpAny_pure (wpAny_pure hQ)
section
variable {prog : Program} {w : World} {A : Around} {E : Value → Shared → Prop} {s : Shared} {h₀ : Heap} {L : Addr} {m : PySem.Str → Option Value} {env : Env}
noncomputable def TurnC (h₀ : Heap) (L : Addr) (m : PySem.Str → Option Value) (s : Shared) (all : List (Addr × Obj)) (J : Value → Prop) (y : Value) (s' : Shared) : Prop :=
  ∃ h' tk', s' = { s with heap := h', toks := tk' } ∧ Fr h₀ L h' m ∧ News h₀ L h' all ∧ J y
noncomputable def SrcC (prog : Program) (w : World) (A : Around) (h₀ : Heap) (L : Addr) (m : PySem.Str → Option Value) (env : Env) (elt : Expr) (x : PySem.Str) (scope : Scope) (cl : List (PySem.Str × Addr)) (Fin : List (Addr × Obj) → Shared → List Value → Prop) (xv : Value) (s₁ : Shared) : Prop :=
  ∃ (t : Addr) (its : List Value) (news : List (Addr × Obj)) (J : Nat → List Value → Prop), xv = .ref t ∧ A.handled = none ∧ Fr h₀ L s₁.heap m ∧ News h₀ L s₁.heap news ∧ (t, tupObj its) ∈ news ∧ its.length ≤ 1000 ∧ J 0 [] ∧
    (∀ i v ys I oI C oC D c oc h tk (E' : Value → Shared → Prop), i < its.length → its[i]? = some v → J i ys → oc.data = .cell (some v) → Fr h₀ L h m → News h₀ L h ((c, oc) :: (I, oI) :: (C, oC) :: (D, lst ys) :: news) →
      wpAny (model prog w) A (eval elt (compEnvC scope ((x, c) :: cl) C env)) (TurnC h₀ L m { s₁ with heap := h, toks := tk } ((c, oc) :: (I, oI) :: (C, oC) :: (D, lst ys) :: news) fun y => J (i + 1) (ys ++ [y])) E' { s₁ with heap := h, toks := tk }) ∧
    ∀ ys, J its.length ys → Fin news s₁ ys
noncomputable def FinC (h₀ : Heap) (L : Addr) (m : PySem.Str → Option Value) (y : PySem.Str) (Q : Flow → Shared → Prop) (news : List (Addr × Obj)) (s : Shared) (ys : List Value) : Prop :=
  ∀ D h tk, Fr h₀ L h (fun z => if z = y then some (.ref D) else m z) → News h₀ L h ((D, lst ys) :: news) → (∀ p ∈ news, p.1 < D) → Q .next { s with heap := h, toks := tk }
inductive InvC (h₀ : Heap) (L : Addr) (m : PySem.Str → Option Value) (s₁ : Shared) (I t : Addr) (its : List Value) (D C c : Addr) (news : List (Addr × Obj)) (J : Nat → List Value → Prop) (k : Nat) (s' : Shared) : Prop
  | mk (h' : Heap) (tk i : Nat) (ys : List Value) (m' : PySem.Str → Option Value) (oc : Obj) (vc : Option Value) : s' = { s₁ with heap := h', toks := tk } → i ≤ its.length → k = its.length + 1 - i → ys.length = i → (h'.IsTupleIter I t i ∧ h'.IsTuple t its.toArray) → Fr h₀ L h' m → h'.Ns C m' → oc.data = .cell vc →
    News h₀ L h' ((c, oc) :: (D, lst ys) :: news) → J i ys → InvC h₀ L m s₁ I t its D C c news J k s'
theorem Assign_ListComp_C {elt iter : Expr} {x y : PySem.Str} {px py : Pos} {scope : Scope} {cl : List (PySem.Str × Addr)} {pos spos : Pos} {Q : Flow → Shared → Prop} (_F₀ : Fr h₀ L s.heap m) (hLe : env.locals = L)
    (hsw : swapsWith (.ListComp elt [⟨.Name x px, iter, [], 0⟩] scope pos) (some (.Name y py)) spos.line env = pure true)
    (hclos : closureFor scope env = pure cl) (hkind : scope.kind = .function)
    (hnames : ∀ z ∈ scope.names, z.2 = .local → scope.names.lookup z.1 = some .local)
    (hlay : ∀ k, cellsFrom k scope.names cl = (x, k) :: cl) (hpush : ∀ h, pushCells h scope.names = h.push { cls := .type "cell", data := .cell none }) (hx : (relabel scope env).names.lookup x = some .cell)
    (hy : env.kindOf y = some .local) (hp : (env.scope.kind == .class || (env.scope.kind == .module && env.locals != env.globals)) = false)
    (h : wpAny (model prog w) A (eval iter env) (SrcC prog w A h₀ L m env elt x scope cl (FinC h₀ L m y Q)) E s)
    (hs : ∀ x, foldedSetIterable iter env x = pure x := by intro _; rfl) :
    wpAny (model prog w) A (exec (.Assign [.Name y py] (.ListComp elt [⟨.Name x px, iter, [], 0⟩] scope pos) spos) env) Q E s := by
  subst hLe
  rw [exec_Assign_Name_used _ _ _ _ hsw]
  refine wpAny_bind (wpAny_standAt (wpAny_bind ?_))
  show wpAny _ A (do let _ ← comprehension (.ListComp elt [⟨.Name x px, iter, [], 0⟩] scope pos) scope env _ (newList []) false (eval iter env) (some (assign (.Name y py) env))) _ _ s
  refine wpAny_bind (wpAny_mono (wpAny_comprehension_free (use := some (assign (.Name y py) env)) (Q := fun _ s' => Q .next s') rfl hs hclos hkind hnames
    (wpAny_mono h (fun xv s₁ h₁ => ?_) fun _ _ e => e)) (fun _ s' hq => wpAny_pure (wpAny_pure hq)) fun _ _ e => e)
  obtain ⟨t, its, news, J, rfl, hh, F, N, hm, hsz, J0, step, fin⟩ := h₁
  have ht : s₁.heap.IsTuple t its.toArray := ⟨_, (N _ hm).1, rfl, _, rfl⟩
  have hlt : t < s₁.heap.objs.size := Heap.lt_size (N _ hm).1
  refine wpAny_pyIter_tuple ht ?_
  have W := Walks.tuple (prog := prog) (w := w) hh s₁.heap.objs.size t (Nat.ne_of_lt hlt) its.toArray
  refine wpAny_newObj_type (newEnv_C hlay hpush ?_)
  dsimp only [newEnv]
  -- the addresses
  generalize hI : s₁.heap.objs.size = I at *
  have hD : (s₁.heap.push { cls := .type "tuple_iterator", data := .fields #[.ref t, .int 0 0] }).objs.size = I + 1 := by rw [Heap.size_push, hI]
  generalize hH1 : s₁.heap.push { cls := .type "tuple_iterator", data := .fields #[.ref t, .int 0 0] } = H1 at *
  have hC : (H1.push { cls := .type "list", dict := none, data := .seq ([] : List Value).toArray }).objs.size = I + 1 + 1 := by rw [Heap.size_push, hD]
  generalize hH2 : H1.push { cls := .type "list", dict := none, data := .seq ([] : List Value).toArray } = H2 at *
  have hc : (H2.push { cls := .type "dict", data := .dict #[] }).objs.size = I + 1 + 1 + 1 := by rw [Heap.size_push, hC]
  generalize hH3 : H2.push { cls := .type "dict", data := .dict #[] } = H3 at *
  generalize hH4 : H3.push { cls := .type "cell", data := .cell none } = H4 at *
  rw [hC, hD]
  have up1 : ∀ b o, s₁.heap.get? b = some o → H1.get? b = some o := fun b o e => hH1 ▸ Heap.get?_push_of_some _ e
  have up2 : ∀ b o, H1.get? b = some o → H2.get? b = some o := fun b o e => hH2 ▸ Heap.get?_push_of_some _ e
  have up3 : ∀ b o, H2.get? b = some o → H3.get? b = some o := fun b o e => hH3 ▸ Heap.get?_push_of_some _ e
  have up4 : ∀ b o, H3.get? b = some o → H4.get? b = some o := fun b o e => hH4 ▸ Heap.get?_push_of_some _ e
  have gI : H1.get? I = some { cls := .type "tuple_iterator", data := .fields #[.ref t, .int 0 0] } := by rw [← hH1, ← hI]; exact Heap.get?_push_size _ rfl
  have gD : H2.get? (I + 1) = some (lst []) := by rw [← hH2, ← hD]; exact Heap.get?_push_size _ rfl
  have gC : H3.get? (I + 1 + 1) = some { cls := .type "dict", data := .dict #[] } := by rw [← hH3, ← hC]; exact Heap.get?_push_size _ rfl
  have gc : H4.get? (I + 1 + 1 + 1) = some { cls := .type "cell", data := .cell none } := by rw [← hH4, ← hc]; exact Heap.get?_push_size _ rfl
  have nsC : H3.Ns (I + 1 + 1) (fun _ => none) := by rw [← hH3, ← hC]; exact Heap.Ns.new H2 (.type "dict")
  have old : ∀ b o, s₁.heap.get? b = some o → H4.get? b = some o := fun b o e => up4 _ _ (up3 _ _ (up2 _ _ (up1 _ _ e)))
  have fresh₀ : ∀ a, I ≤ a → h₀.get? a = none := fun a ha => by
    cases e : h₀.get? a with
    | none => rfl
    | some o' => exact absurd (Heap.lt_size (F.keep a o' e)) (by rw [hI]; exact Nat.not_lt.mpr ha)
  have hLlt : env.locals < I := by rw [← hI]; exact F.ns.lt
  have newslt : ∀ p ∈ news, p.1 < I := fun p hp => by rw [← hI]; exact Heap.lt_size (N p hp).1
  have I1 : I < I + 1 := Nat.lt_succ_self _
  have I2 : I < I + 1 + 1 := Nat.lt_succ_of_lt I1
  have I3 : I < I + 1 + 1 + 1 := Nat.lt_succ_of_lt I2
  have D2 : I + 1 < I + 1 + 1 := Nat.lt_succ_self _
  have D3 : I + 1 < I + 1 + 1 + 1 := Nat.lt_succ_of_lt D2
  have C3 : I + 1 + 1 < I + 1 + 1 + 1 := Nat.lt_succ_self _
  generalize hDg : I + 1 = D at *
  generalize hCg : D + 1 = C at *
  generalize hcg : C + 1 = c at *
  have fpN : ∀ b ∈ [I, t], b < D := fun b hb => by
    simp only [List.mem_cons, List.not_mem_nil, or_false] at hb
    rcases hb with rfl | rfl
    · exact I1
    · exact Nat.lt_trans hlt I1
  have loop : ∀ s₃ : Shared, s₃ = { s₁ with heap := H4 } →
      codeAny (model prog w) A (.compLoop (.ListComp elt [⟨.Name x px, iter, [], 0⟩] scope pos) 0 (.ref I) (.ref D) (compEnvC scope ((x, c) :: cl) C env))
        (compPost (model prog w) A E (some (assign (.Name y py) env)) (fun _ s' => Q .next s') (.ref D) C) s₃ := by
    rintro s₃ rfl
    obtain ⟨IV, hIV⟩ : ∃ IV : Nat → Shared → Prop, IV = InvC h₀ env.locals m s₁ I t its D C c news J := ⟨_, rfl⟩
    refine codeAny_compLoop_tests IV ?_ (its.length + 1) ?ini
    case ini =>
      rw [hIV]
      refine ⟨H4, _, 0, [], _, { cls := .type "cell", data := .cell none }, none, rfl, Nat.zero_le _, rfl, rfl, ⟨⟨_, up4 _ _ (up3 _ _ (up2 _ _ gI)), rfl, rfl⟩, ht.at fun o e => old _ o e⟩, F.keeps old, nsC.at fun o e => up4 _ o e, rfl, fun p hp => ?_, J0⟩
      rcases List.mem_cons.mp hp with rfl | hp
      · exact ⟨gc, Nat.ne_of_gt (Nat.lt_trans hLlt I3), fresh₀ _ (Nat.le_of_lt I3)⟩
      rcases List.mem_cons.mp hp with rfl | hp
      · exact ⟨up4 _ _ (up3 _ _ gD), Nat.ne_of_gt (Nat.lt_trans hLlt I1), fresh₀ _ (Nat.le_of_lt I1)⟩
      · exact ⟨old _ _ (N p hp).1, (N p hp).2⟩
    · intro k s' hi9
      rw [hIV] at hi9
      obtain ⟨h', tk, i, ys, m', oc, vc, rfl, hi, rfl, hyl, hst', F', hn', hoc, N', hJ⟩ := hi9
      by_cases hil : i < its.length
      · refine W.item i _ _ _ (by simpa using hil) hst' fun v h₂ tk₂ hPv hst₂ hk₂ => ?_
        have hv : its[i]? = some v := by simpa using hPv
        have N2 : News h₀ env.locals h₂ ((c, oc) :: (D, lst ys) :: news) := news_but N' hk₂ fun p hp => by
          rcases List.mem_cons.mp hp with rfl | hp
          · exact Nat.ne_of_gt I3
          rcases List.mem_cons.mp hp with rfl | hp
          · exact Nat.ne_of_gt I1
          · exact Nat.ne_of_lt (newslt p hp)
        have F2 : Fr h₀ env.locals h₂ m := fr_but F' hk₂ (Nat.ne_of_lt hLlt) (fresh₀ _ (Nat.le_refl _))
        refine wpAny_assign_Name (wpAny_storeName_cell (by simp [compEnvC, relabel, hkind]) hx (by simp [compEnvC]) ⟨oc, (N2 _ (.head _)).1, hoc⟩ fun h₃ hc₃ hs₃ => ?_)
        refine wpAny_tests_nil ?_
        simp only [if_true]
        obtain ⟨oc3, gc3, doc3⟩ := hc₃
        have hLc : env.locals ≠ c := Nat.ne_of_lt (Nat.lt_trans hLlt I3)
        have F3 : Fr h₀ env.locals h₃ m := F2.change hs₃ (Ne.symm hLc) (fresh₀ _ (Nat.le_of_lt I3))
        have keep3 : ∀ b o, b ≠ c → h₂.get? b = some o → h₃.get? b = some o := fun b o hb e => hs₃.extBut b o hb e
        obtain ⟨oI, eI, oI1, oI2⟩ := hst₂.1
        have eI3 := keep3 I oI (Nat.ne_of_lt I3) eI
        have hn3 := (hn'.at fun o e => hk₂ _ o (by simpa using Nat.ne_of_gt I2) e).at fun o e => keep3 C o (Nat.ne_of_lt C3) e
        obtain ⟨oC, heC, hoC⟩ := ns_obj hn3
        have N3 : News h₀ env.locals h₃ ((c, oc3) :: (I, oI) :: (C, oC) :: (D, lst ys) :: news) := fun p hp => by
          rcases List.mem_cons.mp hp with rfl | hp
          · exact ⟨gc3, Ne.symm hLc, fresh₀ _ (Nat.le_of_lt I3)⟩
          rcases List.mem_cons.mp hp with rfl | hp
          · exact ⟨eI3, Nat.ne_of_gt hLlt, fresh₀ _ (Nat.le_refl _)⟩
          rcases List.mem_cons.mp hp with rfl | hp
          · exact ⟨heC, Nat.ne_of_gt (Nat.lt_trans hLlt I2), fresh₀ _ (Nat.le_of_lt I2)⟩
          · have z := N2 p (.tail _ hp)
            refine ⟨keep3 _ _ ?_ z.1, z.2⟩
            rcases List.mem_cons.mp hp with rfl | hp
            · exact Nat.ne_of_lt D3
            · exact Nat.ne_of_lt (Nat.lt_trans (newslt p hp) I3)
        refine wpAny_mono (step i v ys I oI C oC D c oc3 h₃ _ _ hil hv hJ doc3 F3 N3) (fun y s₄ h₄ => ?_) fun _ _ e => e
        obtain ⟨h₄, tk₄, rfl, F₄, N₄, J₄⟩ := h₄
        have zI := (N₄ (I, oI) (.tail _ (.head _))).1
        have zC := (N₄ (C, oC) (.tail _ (.tail _ (.head _)))).1
        have zD := (N₄ (D, lst ys) (.tail _ (.tail _ (.tail _ (.head _))))).1
        refine append_at (hsz := by show ys.toArray.size ≤ sizeLine; rw [List.size_toArray, hyl, sizeLine_eq]; omega) zD fun h₅ hs₅ hD₅ => ?_
        have keep5 : ∀ b o, b ≠ D → h₄.get? b = some o → h₅.get? b = some o := fun b o hb e => hs₅.extBut b o hb e
        have zt : h₄.get? t = some (tupObj its) := (N₄ (t, tupObj its) (.tail _ (.tail _ (.tail _ (.tail _ hm))))).1
        refine ⟨its.length + 1 - (i + 1), by omega, ?_⟩
        rw [hIV]
        refine ⟨h₅, tk₄, i + 1, ys ++ [y], _, oc3, some v, rfl, hil, rfl, by rw [List.length_append, List.length_singleton, hyl], ⟨⟨oI, keep5 _ _ (Nat.ne_of_lt I1) zI, oI1, oI2⟩, ⟨_, keep5 _ _ (Nat.ne_of_lt (Nat.lt_trans hlt I1)) zt, rfl, _, rfl⟩⟩, F₄.change hs₅ (Nat.ne_of_gt (Nat.lt_trans hLlt I1)) (fresh₀ _ (Nat.le_of_lt I1)), (hoC.ns zC).sameBut hs₅ (Nat.ne_of_gt D2), doc3, fun p hp => ?_, J₄⟩
        rcases List.mem_cons.mp hp with rfl | hp
        · have z := N₄ (c, oc3) (.head _)
          exact ⟨keep5 _ _ (Nat.ne_of_gt D3) z.1, z.2⟩
        rcases List.mem_cons.mp hp with rfl | hp
        · exact ⟨hD₅.trans (congrArg some (lst_snoc ys y)), Nat.ne_of_gt (Nat.lt_trans hLlt I1), fresh₀ _ (Nat.le_of_lt I1)⟩
        · have z := N₄ p (.tail _ (.tail _ (.tail _ (.tail _ hp))))
          exact ⟨keep5 _ _ (Nat.ne_of_lt (Nat.lt_trans (newslt p hp) I1)) z.1, z.2⟩
      · obtain rfl : i = its.length := Nat.le_antisymm hi (Nat.not_lt.mp hil)
        refine W.done _ _ _ (by simpa using hst') fun h₂ tk₂ hk₂ => ?_
        have N2 : News h₀ env.locals h₂ ((D, lst ys) :: news) := news_but (fun p hp => N' p (.tail _ hp)) hk₂ fun p hp => by
          rcases List.mem_cons.mp hp with rfl | hp
          · exact Nat.ne_of_gt I1
          · exact Nat.ne_of_lt (newslt p hp)
        have F2 : Fr h₀ env.locals h₂ m := fr_but F' hk₂ (Nat.ne_of_lt hLlt) (fresh₀ _ (Nat.le_refl _))
        have hn2 := hn'.at fun o e => hk₂ _ o (by simpa using Nat.ne_of_gt I2) e
        show wpAny _ A (assign (.Name y py) env (.ref D)) _ _ _
        refine wpAny_assign_Name (wpAny_storeName_local hy F2.ns (fun h₃ hn₃ hs₃ => ?_) hp)
        have hL₀ : h₀.get? env.locals = none := Heap.get?_none_of_le F2.above
        have F₃ : Fr h₀ env.locals h₃ (fun z => if z = y then some (.ref D) else m z) := ⟨hn₃, fun b o e => hs₃.extBut b o (fun q => by rw [q, hL₀] at e; cases e) (F2.keep b o e), F2.above⟩
        have hCL : C ≠ env.locals := Nat.ne_of_gt (Nat.lt_trans hLlt I2)
        refine ⟨_, hn2.sameBut hs₃ hCL, fun h'' hs'' => fin ys hJ D h'' _ (F₃.change hs'' hCL (fresh₀ _ (Nat.le_of_lt I2))) (fun p hp => ?_) fun p hp => Nat.lt_trans (newslt p hp) I1⟩
        have z : h₃.get? p.1 = some p.2 := hs₃.extBut _ _ (N2 p hp).2.1 (N2 p hp).1
        refine ⟨hs''.extBut _ _ ?_ z, (N2 p hp).2⟩
        rcases List.mem_cons.mp hp with rfl | hp
        · exact Nat.ne_of_lt D2
        · exact Nat.ne_of_lt (Nat.lt_trans (newslt p hp) I2)
  exact codeAny_compStart_list (loop _ rfl) (W.self 0 _ _ _ ⟨⟨_, up4 _ _ (up3 _ _ (up2 _ _ gI)), rfl, rfl⟩, ht.at fun o e => old _ o e⟩ (loop _ rfl))
end
end
section
open PySem PySem.W PyProof.Rows PySem.Calls PyProof.Rows.LCg
section
variable {prog : Program} {w : World} {A : Around} {E : Value → Shared → Prop} {s : Shared} {h₀ : Heap} {L : Addr} {m : PySem.Str → Option Value} {env : Env}
noncomputable def FinAO (h₀ : Heap) (L : Addr) (m : PySem.Str → Option Value) (y : PySem.Str) (Q : Flow → Shared → Prop) (news₀ : List (Addr × Obj)) (s : Shared) (ys : List Value) (news : List (Addr × Obj)) : Prop :=
  ∀ D h tk, Fr h₀ L h (fun z => if z = y then some (.ref D) else m z) → News h₀ L h ((D, lst ys) :: news) → Off1 D news → (∀ p ∈ news₀, p.1 < D) → Q .next { s with heap := h, toks := tk }
theorem Assign_ListComp_E {elt iter : PySem.Expr} {x x₂ y : PySem.Str} {px px₂ tp py : Pos} {tt : Nat} {scope : Scope} {cl : List (PySem.Str × Addr)} {pos spos : Pos} {Q : Flow → Shared → Prop} (_F₀ : Fr h₀ L s.heap m) (hLe : env.locals = L)
    (hsw : swapsWith (.ListComp elt [⟨.Tuple [.Name x px, .Name x₂ px₂] tt tp, iter, [], 0⟩] scope pos) (some (.Name y py)) spos.line env = pure true)
    (hclos : closureFor scope env = pure cl) (hcell : ∀ y ∈ scope.names, y.2 ≠ .cell) (hkind : scope.kind = .function)
    (hnames : ∀ y ∈ scope.names, y.2 = .local → scope.names.lookup y.1 = some .local) (hx : scope.names.lookup x = some .local) (hx₂ : scope.names.lookup x₂ = some .local) (hxx : x ≠ x₂)
    (hy : env.kindOf y = some .local) (hp : (env.scope.kind == .class || (env.scope.kind == .module && env.locals != env.globals)) = false)
    (h : wpAny (model prog w) A (eval iter env) (SrcE prog w A h₀ L m env elt x x₂ scope cl (FinAO h₀ L m y Q)) E s)
    (hs : ∀ x, foldedSetIterable iter env x = pure x := by intro _; rfl) :
    wpAny (model prog w) A (exec (.Assign [.Name y py] (.ListComp elt [⟨.Tuple [.Name x px, .Name x₂ px₂] tt tp, iter, [], 0⟩] scope pos) spos) env) Q E s := by
  subst hLe
  rw [exec_Assign_Name_used _ _ _ _ hsw]
  refine wpAny_bind (wpAny_standAt (wpAny_bind ?_))
  show wpAny _ A (do let _ ← comprehension (.ListComp elt [⟨.Tuple [.Name x px, .Name x₂ px₂] tt tp, iter, [], 0⟩] scope pos) scope env _ (newList []) false (eval iter env) (some (assign (.Name y py) env))) _ _ s
  refine wpAny_bind (wpAny_mono (wpAny_comprehension_free (use := some (assign (.Name y py) env)) (Q := fun _ s' => Q .next s') rfl hs hclos hkind hnames
    (wpAny_mono h (fun xv s₁ h₁ => ?_) fun _ _ e => e)) (fun _ s' hq => wpAny_pure (wpAny_pure hq)) fun _ _ e => e)
  obtain ⟨e, it, l, ol, n, P, St, Mid, news, rfl, hh, W, hsz, hSo, hst, F, N, d1, d2, d3, d4, d5, d6, d7, R⟩ := h₁
  refine W.self 0 _ _ _ hst ?_
  have lt : ∀ b o, s₁.heap.get? b = some o → b < s₁.heap.objs.size := fun b o e => Heap.lt_size e
  refine block_E W hsz hSo hcell hkind hx hx₂ hxx hh hst (fun b hb => ?_) F N d1 d2 d3 d4 d5 d6 d7 R ?_
  · obtain ⟨⟨o1, e1⟩, ⟨o2, e2⟩, e3⟩ := hSo _ _ hst
    simp only [List.mem_cons, List.not_mem_nil, or_false] at hb
    rcases hb with rfl | rfl | rfl
    · exact lt _ _ e1
    · exact lt _ _ e2
    · exact lt _ _ e3
  · intro D C h' tk m' ys news' F' N' o1 lt0 hn hC₀ hD₀ hCL hDL hCD offC fin
    show wpAny _ A (assign (.Name y py) env (.ref D)) _ _ _
    refine wpAny_assign_Name (wpAny_storeName_local hy F'.ns (fun h₂ hn₂ hs₂ => ?_) hp)
    have hL₀ : h₀.get? env.locals = none := Heap.get?_none_of_le F'.above
    have F₂ : Fr h₀ env.locals h₂ (fun z => if z = y then some (.ref D) else m z) := ⟨hn₂, fun b o e => hs₂.extBut b o (fun q => by rw [q, hL₀] at e; cases e) (F'.keep b o e), F'.above⟩
    refine ⟨m', hn.sameBut hs₂ hCL, fun h'' hs'' => fin D h'' _ (F₂.change hs'' hCL hC₀) (fun p hp => ?_) o1 lt0⟩
    have z : h₂.get? p.1 = some p.2 := hs₂.extBut _ _ (N' p hp).2.1 (N' p hp).1
    refine ⟨hs''.extBut _ _ ?_ z, (N' p hp).2⟩
    rcases List.mem_cons.mp hp with rfl | hp
    · exact Ne.symm hCD
    · exact offC p hp
end
theorem chars_flat (l : List Nat) : (l.map fun c => [c]).flatten = l := by
  induction l with
  | nil => rfl
  | cons a r ih => rw [List.map_cons, List.flatten_cons, ih]; rfl
theorem chars_sum (l : List Nat) : ((l.map fun c => [c]).map (·.length)).sum = l.length := by
  induction l with
  | nil => rfl
  | cons a r ih => simp only [List.map_cons, List.sum_cons, List.length_cons, List.length_nil, ih]; omega
theorem two_snoc {la lb c : Nat} {bs : List Nat} (h : ∀ c ∈ bs, c = la ∨ c = lb) (hc : c = la ∨ c = lb) : ∀ d ∈ bs ++ [c], d = la ∨ d = lb := by
  intro d hd
  rcases List.mem_append.mp hd with hd | hd
  · exact h d hd
  · rw [List.mem_singleton.mp hd]; exact hc
theorem strs2 {vs : List Value} {a b : List Nat} (h : StrsAre vs [a, b]) : ∃ t u, vs = [Value.str (S a) t, .str (S b) u] := by
  rcases h with _ | ⟨_, t, h⟩
  rcases h with _ | ⟨_, u, h⟩
  cases h
  exact ⟨t, u, rfl⟩
noncomputable def ring8 : List Nat := [38, 60, 62, 34, 13, 10, 9, 122]
theorem lit_ring8 : PySem.Str.ofString "&<>\"\r\n\tz" = S ring8 := by rfl
theorem ring8_at {i : Int} (h0 : 0 ≤ i) (h8 : i < 8) : R8 (ring8.getD i.toNat 0) := by
  have key : ∀ a : Fin 8, ring8.getD a.val 0 = 38 ∨ ring8.getD a.val 0 = 60 ∨ ring8.getD a.val 0 = 62 ∨ ring8.getD a.val 0 = 34 ∨ ring8.getD a.val 0 = 13 ∨ ring8.getD a.val 0 = 10 ∨ ring8.getD a.val 0 = 9 ∨ ring8.getD a.val 0 = 122 := by decide +kernel
  exact key ⟨i.toNat, (Int.toNat_lt h0).mpr h8⟩
theorem ring8_ne {i j : Int} (h0 : 0 ≤ i) (h8 : i < 8) (k0 : 0 ≤ j) (k8 : j < 8) (h : i ≠ j) : ring8.getD i.toNat 0 ≠ ring8.getD j.toNat 0 := by
  have key : ∀ a b : Fin 8, a ≠ b → ring8.getD a.val 0 ≠ ring8.getD b.val 0 := by decide +kernel
  refine key ⟨i.toNat, (Int.toNat_lt h0).mpr h8⟩ ⟨j.toNat, (Int.toNat_lt k0).mpr k8⟩ fun q => h ?_
  have e : i.toNat = j.toNat := congrArg Fin.val q
  rw [← Int.toNat_of_nonneg h0, ← Int.toNat_of_nonneg k0, e]
theorem far8 {a b : Int} (h0 : 0 ≤ a) (h8 : a < 8) (k0 : 0 ≤ b) (k7 : b < 7) : a ≠ (a + 1 + b) % 8 := by
  have key : ∀ x : Fin 8, ∀ y : Fin 7, ((x.val : Nat) : Int) ≠ (((x.val : Nat) : Int) + 1 + ((y.val : Nat) : Int)) % 8 := by decide +kernel
  have := key ⟨a.toNat, (Int.toNat_lt h0).mpr h8⟩ ⟨b.toNat, (Int.toNat_lt k0).mpr k7⟩
  dsimp only at this
  rwa [Int.toNat_of_nonneg h0, Int.toNat_of_nonneg k0] at this
end
section
open PySem PySem.W PyProof.Rows PySem.Calls PyProof.Rows.LCg
noncomputable def hidL (x : List Nat) : List Nat := x.flatMap fun c => [92, c]
noncomputable def pageB (x0 x1 : List Nat) : List Nat := (hidL x0 ++ [10]) ++ (hidL x1 ++ [10])
noncomputable def rstB (x0 x1 : List Nat) : Nat → List Nat
  | 0 => pageB x0 x1
  | 1 => hidL x1 ++ [10]
  | _ => []
theorem news_rd {g h : Heap} {L : Addr} {X tl R7 : List (Addr × Obj)} {b1 b2 b3 : Addr × Obj} (N : News g L h ((X ++ tl) ++ (b1 :: b2 :: b3 :: R7))) : News g L h (X ++ (b1 :: b2 :: b3 :: (R7 ++ tl))) := news_sub N fun q hq => by
  rcases List.mem_append.mp hq with hq | hq
  · exact List.mem_append_left _ (List.mem_append_left _ hq)
  rcases List.mem_cons.mp hq with rfl | hq
  · exact List.mem_append_right _ (.head _)
  rcases List.mem_cons.mp hq with rfl | hq
  · exact List.mem_append_right _ (.tail _ (.head _))
  rcases List.mem_cons.mp hq with rfl | hq
  · exact List.mem_append_right _ (.tail _ (.tail _ (.head _)))
  rcases List.mem_append.mp hq with hq | hq
  · exact List.mem_append_right _ (.tail _ (.tail _ (.tail _ hq)))
  · exact List.mem_append_left _ (List.mem_append_right _ hq)
theorem mem_rd {tl R7 : List (Addr × Obj)} {b1 b2 b3 : Addr × Obj} {q : Addr × Obj} (h : q ∈ b1 :: b2 :: b3 :: R7) : q ∈ b1 :: b2 :: b3 :: (R7 ++ tl) := by
  rcases List.mem_cons.mp h with rfl | h
  · exact .head _
  rcases List.mem_cons.mp h with rfl | h
  · exact .tail _ (.head _)
  rcases List.mem_cons.mp h with rfl | h
  · exact .tail _ (.tail _ (.head _))
  · exact .tail _ (.tail _ (.tail _ (List.mem_append_left _ h)))
noncomputable def OffL (X news : List (Addr × Obj)) : Prop := ∀ q ∈ X, ∀ p ∈ news, q.1 ≠ p.1
theorem news_adds {g h h' : Heap} {L : Addr} {m : PySem.Str → Option Value} {X news : List (Addr × Obj)} (F : Fr g L h m) (N0 : News g L h news) (N : News g L h' news) (hX : ∀ q ∈ X, h'.get? q.1 = some q.2 ∧ h.get? q.1 = none) : News g L h' (X ++ news) ∧ OffL X news := by
  refine ⟨fun q hq => ?_, fun q hq p hp e => ?_⟩
  · rcases List.mem_append.mp hq with hq | hq
    · obtain ⟨h1, h2⟩ := hX q hq
      refine ⟨h1, fun e => ?_, ?_⟩
      · obtain ⟨oL, _, _, hL, _⟩ := F.ns
        rw [e, hL] at h2; cases h2
      · cases e : g.get? q.1 with
        | none => rfl
        | some o' => rw [F.keep _ _ e] at h2; cases h2
    · exact N q hq
  · have h1 := (hX q hq).2
    rw [e, (N0 p hp).1] at h1; cases h1
noncomputable def OffR (w : World) (r : RP) (own : List (Addr × Obj)) : Prop := ∀ q ∈ own, ∀ ln tz pb kp lf kl, q.1 ∉ (rdr 153 w.params r ln tz pb kp lf kl).map (·.1)
theorem offR_lt {w : World} {r : RP} (ok : r.Ok) {own : List (Addr × Obj)} (h : ∀ q ∈ own, @LT.lt Nat _ q.1 r.aC) : OffR w r own := fun q hq _ _ _ _ _ _ => notin_lt ok (h q hq)
theorem offR_ne {w : World} {r : RP} {own : List (Addr × Obj)} {ln tz pb kp lf kl} (h : ∀ q ∈ own, ∀ p ∈ rdr 153 w.params r ln tz pb kp lf kl, p.1 ≠ q.1) : OffR w r own := fun q hq _ _ _ _ _ _ hm => by
  have hm' : q.1 ∈ (rdr 153 w.params r ln tz pb kp lf kl).map (·.1) := hm
  obtain ⟨p, hp, e⟩ := List.mem_map.mp hm'
  exact h q hq p hp e
theorem OffR.cons {w : World} {r : RP} {x : Addr × Obj} {l : List (Addr × Obj)} (h : OffR w r [x]) (h2 : OffR w r l) : OffR w r (x :: l) := fun q hq => by
  rcases List.mem_cons.mp hq with rfl | hq
  · exact h _ (.head _)
  · exact h2 q hq
theorem OffR.sub {w : World} {r : RP} {l k : List (Addr × Obj)} (h : OffR w r l) (hs : ∀ q ∈ k, q ∈ l) : OffR w r k := fun q hq => h q (hs q hq)
theorem news_soon {g h : Heap} {L : Addr} {X tl R7 tls : List (Addr × Obj)} {d z b1 b2 b3 : Addr × Obj} (N : News g L h ((X ++ tl) ++ (d :: ((b1 :: b2 :: b3 :: R7) ++ z :: tls)))) : News g L h (d :: (X ++ (b1 :: b2 :: b3 :: (R7 ++ (tls ++ tl))))) := news_sub N fun q hq => by
  rcases List.mem_cons.mp hq with rfl | hq
  · exact List.mem_append_right _ (.head _)
  rcases List.mem_append.mp hq with hq | hq
  · exact List.mem_append_left _ (List.mem_append_left _ hq)
  rcases List.mem_cons.mp hq with rfl | hq
  · exact List.mem_append_right _ (.tail _ (.head _))
  rcases List.mem_cons.mp hq with rfl | hq
  · exact List.mem_append_right _ (.tail _ (.tail _ (.head _)))
  rcases List.mem_cons.mp hq with rfl | hq
  · exact List.mem_append_right _ (.tail _ (.tail _ (.tail _ (.head _))))
  rcases List.mem_append.mp hq with hq | hq
  · exact List.mem_append_right _ (.tail _ (.tail _ (.tail _ (.tail _ (List.mem_append_left _ hq)))))
  rcases List.mem_append.mp hq with hq | hq
  · exact List.mem_append_right _ (.tail _ (List.mem_append_right _ (.tail _ hq)))
  · exact List.mem_append_left _ (List.mem_append_right _ hq)
theorem two_names {g h : Heap} {L a b : Addr} {v : List Value} {k : Nat} {o : Obj} {l : List (Addr × Obj)} (_N : News g L h ((a, listOf v.toArray k) :: (b, o) :: l)) : ∃ (a' : Addr) (v' : List Value) (k' : Nat) (b' : Addr), a' = a ∧ v' = v ∧ k' = k ∧ b' = b := ⟨_, _, _, _, rfl, rfl, rfl, rfl⟩
theorem hid_len (x : List Nat) : (hidL x).length = 2 * x.length := by
  unfold hidL
  induction x with
  | nil => rfl
  | cons a r ih => rw [List.flatMap_cons, List.length_append, ih]; simp only [List.length_cons, List.length_nil]; omega
theorem hid_tok {x rest : List Nat} (hn : x ≠ []) (h : ∀ c ∈ x, c ≠ 92) : getTok (hidL x ++ 10 :: rest) = some (x, rest) := by
  have e : hidL x = spelledL x 1 := by unfold spelledL hidL; rw [if_neg]; intro q; rcases q with q | q
                                       · cases q
                                       · exact hn q
  rw [e, getTok_spelled _ _ _ h, if_neg]
  intro q
  rcases q with q | q
  · cases q
  · exact hn q
theorem rstB_suf (x0 x1 : List Nat) : ∀ i, rstB x0 x1 i <:+ pageB x0 x1
  | 0 => List.suffix_refl _
  | 1 => List.suffix_append _ _
  | _ + 2 => List.nil_suffix
theorem tokB_step {x0 x1 : List Nat} (n0 : x0 ≠ []) (n1 : x1 ≠ []) (h0 : ∀ c ∈ x0, c ≠ 92) (h1 : ∀ c ∈ x1, c ≠ 92) (i : Nat) (hi : i < 2) : getTok (rstB x0 x1 i) = some ([x0, x1].getD i [], rstB x0 x1 (i + 1)) := by
  have : i = 0 ∨ i = 1 := by omega
  rcases this with rfl | rfl
  · show getTok (pageB x0 x1) = _
    have e : pageB x0 x1 = hidL x0 ++ 10 :: (hidL x1 ++ [10]) := by simp [pageB]
    rw [e, hid_tok n0 h0]; rfl
  · show getTok (hidL x1 ++ [10]) = _
    rw [hid_tok n1 h1]; rfl
theorem tokB_last {x0 x1 : List Nat} : getTok (rstB x0 x1 2) = some ([], []) := rfl
theorem pageB_len {x0 x1 : List Nat} (h0 : x0.length ≤ 5) (h1 : x1.length ≤ 5) : (pageB x0 x1).length ≤ 22 := by
  unfold pageB
  simp only [List.length_append, hid_len, List.length_cons, List.length_nil]
  omega
theorem hid_all {x : List Nat} {P : Nat → Prop} (h92 : P 92) (h : ∀ c ∈ x, P c) : ∀ c ∈ hidL x, P c := by
  intro c hc
  obtain ⟨d, hd, hc⟩ := List.mem_flatMap.mp hc
  simp only [List.mem_cons, List.not_mem_nil, or_false] at hc
  rcases hc with rfl | rfl
  · exact h92
  · exact h _ hd
theorem pageB_lt {x0 x1 : List Nat} (h0 : ∀ c ∈ x0, R8 c) (h1 : ∀ c ∈ x1, R8 c) : (pageB x0 x1).all (· < 0x110000) = true := by
  rw [List.all_eq_true]
  intro c hc
  have : c < 128 := by
    simp only [pageB, List.mem_append, List.mem_singleton] at hc
    rcases hc with (hc | rfl) | (hc | rfl)
    · exact hid_all (P := (· < 128)) (by decide) (fun c hc => r8_lt (h0 c hc)) c hc
    · omega
    · exact hid_all (P := (· < 128)) (by decide) (fun c hc => r8_lt (h1 c hc)) c hc
    · omega
  exact decide_eq_true (by omega)
theorem two_r8 {la lb : Nat} {x : List Nat} (ra : R8 la) (rb : R8 lb) (h : ∀ c ∈ x, c = la ∨ c = lb) : ∀ c ∈ x, R8 c := fun c hc => by
  rcases h c hc with rfl | rfl <;> assumption
theorem r8_92 {x : List Nat} (h : ∀ c ∈ x, R8 c) : ∀ c ∈ x, c ≠ 92 := fun c hc e => by
  have := h c hc
  subst e
  unfold R8 at this; omega
theorem ok8_two {x0 x1 : List Nat} (h0 : ∀ c ∈ x0, R8 c) (h1 : ∀ c ∈ x1, R8 c) : Ok8 [x0, x1] := by
  intro x hx
  rw [List.all_eq_true]
  intro c hc
  have : c < 128 := by
    simp only [List.mem_cons, List.not_mem_nil, or_false] at hx
    rcases hx with rfl | rfl
    · exact r8_lt (h0 c hc)
    · exact r8_lt (h1 c hc)
  exact decide_eq_true (by omega)
end
section
open PySem PySem.W PyProof.Rows PySem.Calls PyProof.Rows.LCg
theorem StrsAre.lib {vs : List Value} {l : List (List Nat)} (h : StrsAre vs l) : PyProof.Rows.StrsAre vs (l.map S) := by
  induction h with
  | nil => exact .nil
  | cons x t _ ih => exact .cons _ _ ih
theorem StrsAre.ofLib : ∀ {vs : List Value} {l : List (List Nat)}, PyProof.Rows.StrsAre vs (l.map S) → StrsAre vs l
  | _, [], h => by cases h; exact .nil
  | _, x :: r, h => by
    rw [List.map_cons] at h
    cases h with
    | cons _ t h => exact .cons x t (StrsAre.ofLib h)
noncomputable def lo2 (a b : Nat) : Nat := if a < b then a else b
noncomputable def hi2 (a b : Nat) : Nat := if a < b then b else a
theorem chars_of2 : ∀ {l : List Nat} {vs : List Value}, StrsAre vs (l.map fun c => [c]) → CharsAre vs l
  | [], _, h => by cases h; exact .nil
  | c :: l, _, h => by
    rw [List.map_cons] at h
    cases h with
    | cons _ t h => exact .cons c t (chars_of2 h)
theorem perm_S {l : List PySem.Str} {k : List (List Nat)} (h : l.Perm (k.map S)) : ∃ k' : List (List Nat), l = k'.map S ∧ k'.Perm k := by
  refine ⟨l.map fun x => x.cps.toList, ?_, ?_⟩
  · rw [List.map_map]
    have : ∀ x ∈ l, (S ∘ fun x : PySem.Str => x.cps.toList) x = x := fun x _ => by
      show (⟨x.cps.toList.toArray⟩ : PySem.Str) = x
      rw [Array.toArray_toList]
    rw [List.map_congr_left this, List.map_id']
  · have h2 := h.map fun x : PySem.Str => x.cps.toList
    rw [List.map_map] at h2
    have : ∀ x ∈ k, ((fun x : PySem.Str => x.cps.toList) ∘ S) x = x := fun x _ => S_cps x
    rwa [List.map_congr_left this, List.map_id'] at h2
theorem sorted_two {l : List PySem.Str} {a b : Nat} (hab : a ≠ b) (h : l.Perm ([[a], [b]].map S)) (hs : sortedS l = true) : l = [[lo2 a b], [hi2 a b]].map S := by
  obtain ⟨k, rfl, hp⟩ := perm_S h
  have h2 : k = [[a], [b]] ∨ k = [[b], [a]] := by
    rcases k with _ | ⟨x, _ | ⟨y, _ | ⟨z, r⟩⟩⟩
    · exact absurd hp.length_eq (by simp)
    · exact absurd hp.length_eq (by simp)
    · have hx := hp.mem_iff (a := x) |>.mp (by simp)
      have hy := hp.mem_iff (a := y) |>.mp (by simp)
      have ha := hp.mem_iff (a := [a]) |>.mpr (by simp)
      have hb := hp.mem_iff (a := [b]) |>.mpr (by simp)
      simp only [List.mem_cons, List.not_mem_nil, or_false] at hx hy ha hb
      rcases hx with rfl | rfl
      · rcases hb with e | rfl
        · exact absurd (List.singleton_inj.mp e).symm hab
        · exact .inl rfl
      · rcases ha with e | rfl
        · exact absurd (List.singleton_inj.mp e) hab
        · exact .inr rfl
    · exact absurd hp.length_eq (by simp)
  unfold lo2 hi2
  rcases h2 with rfl | rfl
  · have : ¬ b < a := by
      intro hlt
      have : sortedS ([[a], [b]].map S) = false := by simp [sortedS, risingS, PySem.Spec.ltCps, S, hlt]
      rw [this] at hs; cases hs
    rw [if_pos (by omega), if_pos (by omega)]
  · have : ¬ a < b := by
      intro hlt
      have : sortedS ([[b], [a]].map S) = false := by simp [sortedS, risingS, PySem.Spec.ltCps, S, hlt]
      rw [this] at hs; cases hs
    rw [if_neg this, if_neg this]
section
variable {prog : Program} {w : World} {A : Around} {E : Value → Shared → Prop} {s : Shared} {h₀ : Heap} {L : Addr} {m : PySem.Str → Option Value} {news : List (Addr × Obj)} {Q : Value → Shared → Prop}
noncomputable def AboveAll (D : Addr) (l : List (Addr × Obj)) : Prop := ∀ p ∈ l, @LT.lt Nat _ p.1 D
theorem r_neFs {a b : Addr} {va vb : List Value} {ta tb : List (Addr × Obj)} {la lb : FD} (ha : s.heap.IsList a va.toArray) (hb : s.heap.IsList b vb.toArray) (fa : FoundAre va ta la) (fb : FoundAre vb tb lb) (N : News h₀ L s.heap news) (sa : ∀ q ∈ ta, q ∈ news) (sb : ∀ q ∈ tb, q ∈ news) (e : la = lb) (ob : Ok8F lb) (hu : A.units + 64 < cLine)
    (h : Q (.bool false) s) : wpAny (model prog w) A (compareOp .NotEq (.ref a) (.ref b)) Q E s :=
  r_neF ha hb fa fb N sa sb (e ▸ ob) ob hu (by rw [decide_eq_true e]; exact h)
theorem r_sort2 {l : Addr} {a b : Nat} {t u : Tok} (F : Fr h₀ L s.heap m) (N : News h₀ L s.heap news) (hl : s.heap.IsList l [Value.str (S [a]) t, .str (S [b]) u].toArray) (hab : a ≠ b)
    (h : ∀ D h' vs e, Fr h₀ L h' m → News h₀ L h' ((D, listOf vs.toArray e) :: news) → CharsAre vs [lo2 a b, hi2 a b] → AboveAll D news → Q (.ref D) { s with heap := h' }) :
    wpAny (model prog w) A (call (.builtin "sorted") [.ref l]) Q E s := by
  refine sorted_N_str F N hl (StrsAre.lib (.cons [a] t (.cons [b] u .nil))) (by simp) fun h' vs' ss' e F' N' hS hp hs => ?_
  obtain rfl := sorted_two hab hp hs
  refine h _ h' vs' e F' N' (chars_of2 (StrsAre.ofLib hS)) fun p hp => Nat.lt_succ_of_lt (Heap.lt_size (N p hp).1)
end
end
section
open PySem PySem.W PyProof.Rows PySem.Calls PyProof.Rows.LCg
theorem rep_appB (c : Nat) (z x y : List Nat) : rep c z (x ++ y) = rep c z x ++ rep c z y := by simp [rep]
theorem hom_eqB {f : List Nat → List Nat} {g : Nat → List Nat} (h0 : f [] = []) (ha : ∀ x y, f (x ++ y) = f x ++ f y) {x : List Nat} (h : ∀ c ∈ x, f [c] = g c) : f x = x.flatMap g := by
  induction x with
  | nil => exact h0
  | cons a r ih =>
    have e : a :: r = [a] ++ r := rfl
    rw [e, ha, h a (.head _), ih fun c hc => h c (.tail _ hc)]
    rfl
theorem wr_eqB {fw : Nat} {wr : List Nat → List Nat} {mk f0 f1 f2 : List Nat} (h : (fw, wr, mk, f0, f1, f2) ∈ wrT) {x : List Nat} (hx : ∀ c ∈ x, R8 c) : wr x = x.flatMap (wrL mk f0 f1 f2) := by
  simp only [wrT, List.mem_cons, List.not_mem_nil, or_false, Prod.mk.injEq] at h
  rcases h with ⟨_, rfl, rfl, rfl, rfl, rfl⟩ | ⟨_, rfl, rfl, rfl, rfl, rfl⟩ | ⟨_, rfl, rfl, rfl, rfl, rfl⟩ | ⟨_, rfl, rfl, rfl, rfl, rfl⟩ | ⟨_, rfl, rfl, rfl, rfl, rfl⟩
  all_goals
    refine hom_eqB rfl (fun a b => by simp only [wr0, wr1, wr2, wr3, wr4, rep_appB]) fun c hc => ?_
    have := hx c hc
    unfold R8 at this
    rcases this with rfl | rfl | rfl | rfl | rfl | rfl | rfl | rfl <;> decide
theorem wrT_mk {fw : Nat} {wr : List Nat → List Nat} {mk f0 f1 f2 : List Nat} (h : (fw, wr, mk, f0, f1, f2) ∈ wrT) : f0.length ≤ 5 ∧ f1.length ≤ 5 ∧ f2.length ≤ 5 ∧ ∀ c ∈ mk, c = 38 ∨ c = 60 ∨ c = 62 ∨ c = 34 ∨ c = 13 ∨ c = 10 ∨ c = 9 := by
  simp only [wrT, List.mem_cons, List.not_mem_nil, or_false, Prod.mk.injEq] at h
  rcases h with ⟨_, _, rfl, rfl, rfl, rfl⟩ | ⟨_, _, rfl, rfl, rfl, rfl⟩ | ⟨_, _, rfl, rfl, rfl, rfl⟩ | ⟨_, _, rfl, rfl, rfl, rfl⟩ | ⟨_, _, rfl, rfl, rfl, rfl⟩ <;> decide
theorem wrL_lt {fw : Nat} {wr : List Nat → List Nat} {mk f0 f1 f2 : List Nat} (h : (fw, wr, mk, f0, f1, f2) ∈ wrT) {c : Nat} (hc : R8 c) : ∀ d ∈ wrL mk f0 f1 f2 c, d < 128 ∧ d ≠ 46 := by
  simp only [wrT, List.mem_cons, List.not_mem_nil, or_false, Prod.mk.injEq] at h
  unfold R8 at hc
  rcases h with ⟨_, _, rfl, rfl, rfl, rfl⟩ | ⟨_, _, rfl, rfl, rfl, rfl⟩ | ⟨_, _, rfl, rfl, rfl, rfl⟩ | ⟨_, _, rfl, rfl, rfl, rfl⟩ | ⟨_, _, rfl, rfl, rfl, rfl⟩ <;>
    (rcases hc with rfl | rfl | rfl | rfl | rfl | rfl | rfl | rfl <;> decide)
theorem wr_lt {fw : Nat} {wr : List Nat → List Nat} {mk f0 f1 f2 : List Nat} (h : (fw, wr, mk, f0, f1, f2) ∈ wrT) {x : List Nat} (hx : ∀ c ∈ x, R8 c) : ∀ d ∈ wr x, d < 128 ∧ d ≠ 46 := by
  rw [wr_eqB h hx]
  intro d hd
  obtain ⟨c, hc, hd⟩ := List.mem_flatMap.mp hd
  exact wrL_lt h (hx c hc) d hd
theorem wr_len {fw : Nat} {wr : List Nat → List Nat} {mk f0 f1 f2 : List Nat} (h : (fw, wr, mk, f0, f1, f2) ∈ wrT) {x : List Nat} (hx : ∀ c ∈ x, R8 c) : (wr x).length ≤ 7 * x.length := by
  obtain ⟨h0, h1, h2, _⟩ := wrT_mk h
  rw [wr_eqB h hx, List.flatMap_def, List.length_flatten]
  have := sum_le (f := wrL mk f0 f1 f2) (B := 7) (wrL_len h0 h1 h2) x
  omega
theorem ok8_wr {fw : Nat} {wr : List Nat → List Nat} {mk f0 f1 f2 : List Nat} (h : (fw, wr, mk, f0, f1, f2) ∈ wrT) {x0 x1 : List Nat} (h0 : ∀ c ∈ x0, R8 c) (h1 : ∀ c ∈ x1, R8 c) : Ok8 [wr x0, wr x1] := by
  intro x hx
  rw [List.all_eq_true]
  intro c hc
  have : c < 128 := by
    simp only [List.mem_cons, List.not_mem_nil, or_false] at hx
    rcases hx with rfl | rfl
    · exact (wr_lt h h0 c hc).1
    · exact (wr_lt h h1 c hc).1
  exact decide_eq_true (by omega)
end
section
open PySem PySem.W PyProof.Rows PySem.Calls PyProof.Rows.LCg
theorem slot_sit_next : Slot "set_iterator" "__next__" "set_iterator.__next__" :=
  .of (owner := "set_iterator") (n := "__next__") (by rw [typeLookup_type, builtinLookup_eq_fast]; kernel_rfl) (by decide +kernel) (by decide +kernel) (by decide +kernel)
    (by first | exact .inl (by decide +kernel) | exact .inr (by decide +kernel)) (by rw [isSubtype_type]; kernel_rfl)
theorem entry_sit_next : entryFor table "set_iterator.__next__" = some Builtin.«set_iterator.__next__» := entryFor_of_tree (by kernel_rfl)
theorem owner_sit : Manifest.owners.lookup (String.ofList ['r', 'o', 't', 'a', 'r', 'e', 't', 'i', '_', 't', 'e', 's'].reverse) = some Manifest.sig_set_iterator := by kernel_rfl
theorem args_sit_next (a : Value) : argsOk "set_iterator.__next__" ⟨[a], []⟩ := by
  unfold argsOk; rw [signature?_of (id := "set_iterator.__next__") (n := ['_', '_', 't', 'x', 'e', 'n', '_', '_']) (o := ['r', 'o', 't', 'a', 'r', 'e', 't', 'i', '_', 't', 'e', 's']) (by kernel_rfl) owner_sit]; kernel_rfl
theorem entry_set_iter : entryFor table "set.__iter__" = some Builtin.«frozenset.__iter__» :=
  entryFor_alias (id' := "frozenset.__iter__") (by kernel_rfl) (by first | rfl | decide +kernel | (unfold String.splitOn; simp +decide [String.splitOnAux])) (by decide +kernel) (by kernel_rfl)
noncomputable def SetP (prog : Program) (w : World) (h : Heap) (a : Addr) (xs : List PySem.Str) : Prop :=
  ∃ o es ep t, h.get? a = some o ∧ o.ExactSet ∧ o.data = .set es ep t ∧ ElemsOf (strKind prog w) es.toList ∧ (∀ k, decide (k ∈ xs) = true ↔ ∃ e ∈ es.toList, (strKind prog w).is k e.2 = true) ∧ es.size < scanBound ∧ t.fits es.size = true ∧ es.size ≤ xs.length ∧ (0 < es.size → t.plain = false)
theorem SetP.keep {prog : Program} {w : World} {h h' : Heap} {a : Addr} {xs : List PySem.Str} (H : SetP prog w h a xs) (e : ∀ o, h.get? a = some o → h'.get? a = some o) : SetP prog w h' a xs := by
  obtain ⟨o, es, ep, t, ho, rest⟩ := H
  exact ⟨o, es, ep, t, e _ ho, rest⟩
theorem relaid_plain {t t' : SetTable} {hs : Array Int} {n : Nat} {o : Array Nat} (h : t.relaid hs n = some (t', o)) : t'.plain = t.plain := by
  unfold SetTable.relaid SetTable.laid at h
  simp only [bind, Option.bind, pure] at h
  split at h
  · cases h
  · cases h; rfl
theorem relayAll_plain {t : SetTable} {es : Array (Int × Value)} {n : Nat} (h : t.plain = false) : (relayAll t es n).2.1.plain = false := by
  unfold relayAll
  split
  · rename_i t' o e
    dsimp only
    split
    · exact (relaid_plain e).trans h
    · rfl
  · rfl
section
variable {prog : Program} {w : World} {A : Around} {E : Value → Shared → Prop} {s : Shared}
theorem set_add {a : Addr} {xs : List PySem.Str} {x : PySem.Str} {tok : Tok} {Q : Bool → Shared → Prop} (hS : SetP prog w s.heap a xs) (hroom : xs.length + 1 < scanBound)
    (h : ∀ (b : Bool) h', Heap.SameBut a s.heap h' → SetP prog w h' a (xs ++ [x]) → Q b { s with heap := h' }) :
    wpAny (model prog w) A (setAddHashed a (.str x tok) ((strKind prog w).hash x)) Q E s := by
  obtain ⟨o, es, ep, t, ho, hex, hd, hel, hmem, hb, hf, hn, hpl⟩ := hS
  have hkey : (strKind prog w).is x (.str x tok) = true := strKind_is _ _ _ _
  have hsc : (Value.str x tok).scannable = true := rfl
  unfold setAddHashed setAddHashedIn
  refine wpAny_holding (wpAny_bind (wpAny_setState_of ho hd hf ?_))
  dsimp only
  rw [byScan_of hsc hb hel]
  simp only [↓reduceIte]
  unfold setAddByScan
  refine wpAny_bind (wpAny_bind (wpAny_rule (wpAny_bind (wpAny_setScan_of hkey ho hd hf hel ?_))))
  cases hr : List.findIdx? (fun e => (strKind prog w).is x e.2) es.toList with
  | some j =>
    dsimp only
    obtain ⟨hj, hpj, _⟩ := List.findIdx?_eq_some_iff_getElem.mp hr
    have hx : x ∈ xs := of_decide_eq_true ((hmem x).mpr ⟨es.toList[j], List.getElem_mem hj, hpj⟩)
    refine wpAny_pure (wpAny_pure ?_)
    have e : s = { s with heap := s.heap } := by cases s; rfl
    rw [e]
    refine h false s.heap (Heap.SameBut.refl a s.heap) ⟨o, es, ep, t, ho, hex, hd, hel, fun k' => ?_, hb, hf, Nat.le_trans hn (by simp), hpl⟩
    rw [← hmem k']
    by_cases hk : k' = x
    · subst hk; simp [hx]
    · simp [hk]
  | none =>
    dsimp only
    have hgw : ∀ (b : Bool) (s₁ : Shared) (Q' : Unit → Shared → Prop), Q' () s₁ → wpAny (model prog w) A (match b with | true => rule "set.scan.the-table-gave-way" | false => pure ()) Q' E s₁ :=
      fun b s₁ Q' hq => by cases b <;> first | exact wpAny_pure hq | exact wpAny_rule hq
    have hperm := layNew_perm t es ((strKind prog w).hash x) (.str x tok)
    have hfits := layNew_fits t es ((strKind prog w).hash x) (.str x tok)
    generalize layNew t es ((strKind prog w).hash x) (.str x tok) = L at hperm hfits ⊢
    obtain ⟨es1, t1, wasDummy, gave⟩ := L
    dsimp only at hperm hfits ⊢
    rw [Array.toList_push] at hperm
    have hel1 : ElemsOf (strKind prog w) es1.toList := (hel.push hkey hsc).perm hperm
    have hmem1 := fun k' => mem_push_iff (S := fun k => decide (k ∈ xs)) hkey hmem hperm k'
    have hsz1 : es1.size = es.size + 1 := by rw [← Array.length_toList, hperm.length_eq, List.length_append, Array.length_toList]; rfl
    have hb1 : es1.size < scanBound := by omega
    have hmem2 : ∀ k', decide (k' ∈ xs ++ [x]) = true ↔ ∃ e ∈ es1.toList, (strKind prog w).is k' e.2 = true := fun k' => by
      rw [← hmem1 k']
      simp [List.mem_append]
    have tail : ∀ t2 : SetTable, t2.fits es1.size = true → t2.plain = false → wpAny (model prog w) A (do
        storeSet a es1 t2
        if (!wasDummy && t2.tooFull) = true then do
            (fun b : Bool => (match b with | true => rule "set.scan.the-table-gave-way" | false => pure () : Sem Unit)) (relayAll t2 es1 (SetTable.grown es1.size)).2.2
            storeSet a (relayAll t2 es1 (SetTable.grown es1.size)).1 (relayAll t2 es1 (SetTable.grown es1.size)).2.1
            pure (some true)
          else pure (some true)) (fun r s' => ∃ b, r = some b ∧ Q b s') E s := by
      intro t2 hf2 hp2
      refine wpAny_bind (wpAny_storeSet_of ho hd ?_ (fits_of_scanBound hb1))
      obtain ⟨ho1, _⟩ := SetOf_store (knd := strKind prog w) ho hex hd hel1 hmem2 hb1 hf2
      have hsb1 := Heap.SameBut.update s.heap a (Obj.putSet es1 t2)
      have le1 : es1.size ≤ (xs ++ [x]).length := by rw [List.length_append, List.length_singleton]; omega
      split
      · have hp := relayAll_perm t2 es1 (SetTable.grown es1.size)
        have hfr := relayAll_fits t2 es1 (SetTable.grown es1.size)
        have hpp := relayAll_plain (es := es1) (n := SetTable.grown es1.size) hp2
        generalize relayAll t2 es1 (SetTable.grown es1.size) = Rl at hp hfr hpp ⊢
        obtain ⟨es2, t3, gave2⟩ := Rl
        dsimp only at hp hfr hpp ⊢
        have hel2 : ElemsOf (strKind prog w) es2.toList := hel1.perm hp
        have hmem3 : ∀ k', decide (k' ∈ xs ++ [x]) = true ↔ ∃ e ∈ es2.toList, (strKind prog w).is k' e.2 = true := fun k' => (hmem2 k').trans ⟨fun ⟨e, he, q⟩ => ⟨e, hp.mem_iff.mpr he, q⟩, fun ⟨e, he, q⟩ => ⟨e, hp.mem_iff.mp he, q⟩⟩
        have hsz : es2.size = es1.size := by rw [← Array.length_toList, hp.length_eq, Array.length_toList]
        have hb2 : es2.size < scanBound := by rw [hsz]; exact hb1
        refine wpAny_bind (hgw _ _ _ ?_)
        refine wpAny_bind (wpAny_storeSet_of ho1 rfl ?_ (fits_of_scanBound hb2))
        obtain ⟨ho2, _⟩ := SetOf_store (knd := strKind prog w) ho1 hex rfl hel2 hmem3 hb2 hfr
        exact wpAny_pure ⟨true, rfl, h true _ (hsb1.trans (Heap.SameBut.update _ a _)) ⟨_, es2, _, t3, ho2, hex, rfl, hel2, hmem3, hb2, hfr, by rw [hsz]; exact le1, fun _ => hpp⟩⟩
      · exact wpAny_pure ⟨true, rfl, h true _ hsb1 ⟨_, es1, _, t2, ho1, hex, rfl, hel1, hmem2, hb1, hf2, le1, fun _ => hp2⟩⟩
    refine wpAny_bind (hgw _ _ _ ?_)
    have fin : ∀ r s', (∃ b, r = some b ∧ Q b s') → wpAny (model prog w) A (match r with | some added => pure added | none => setAddHashedIn a (.str x tok) ((strKind prog w).hash x) 99999) Q E s' := by
      rintro r s' ⟨b, rfl, hq⟩; exact wpAny_pure hq
    split
    · rename_i hpt
      refine wpAny_bind ?_
      rw [hashByValue_scannable 8 hsc]
      refine wpAny_pure ?_
      refine wpAny_mono (tail { t1 with plain := false } (SetTable.fits_plain_off hfits) rfl) (fun r s' hq => ?_) fun _ _ e => e
      exact fin r s' hq
    · rename_i hpt
      refine wpAny_bind (wpAny_pure ?_)
      simp only [↓reduceIte]
      refine wpAny_mono (tail t1 hfits (by simpa using hpt)) (fun r s' hq => ?_) fun _ _ e => e
      exact fin r s' hq
end
end
section
open PySem PySem.W PyProof.Rows PySem.Calls
section
variable {prog : Program} {w : World} {A : Around} {R : Result → Shared → Prop} {I : Addr} {fp wr : List Addr} {G : Array GenState → Array GenState → Prop} {n : Nat} {P : Nat → Value → Prop} {St : Nat → Shared → Prop}
theorem set_loopP (W : WalksS prog w A.in1 I fp wr G n P St) (a : Addr) (haf : a ∉ fp) (xs : List PySem.Str) (hn : xs.length = n) (hval : ∀ i v, P i v → ∃ x t, xs[i]? = some x ∧ v = .str x t) (hb : n + 1 < scanBound) :
    ∀ (k i : Nat) (s : Shared), i + k = n → St i s → SetP prog w s.heap a (xs.take i) →
      (∀ s', Moved (a :: wr) G s s' → SetP prog w s'.heap a xs → R (.ok (.ret .none)) s') → codeAny (model prog w) A (.builtin "set.update.loop" ⟨[.ref a, .ref I], []⟩) R s := by
  have haw : a ∉ wr := fun h => haf (W.sub _ h)
  have hsub : ∀ b ∈ wr, b ∈ a :: wr := fun b hb => List.mem_cons_of_mem _ hb
  intro k
  induction k with
  | zero =>
    intro i s hk hst hS hR
    obtain rfl : i = n := by omega
    refine codeAny_builtin F.entry_set_update_loop ?_
    rw [Around.under_plainId F.plain_set_update_loop _]
    show wpAny _ A.in1 (pyNext (.ref I) >>= _) _ _ s
    refine wpAny_bind (W.done s _ _ hst fun s' hm => ?_)
    show wpAny _ A.in1 (ret Value.none) _ _ s'
    rw [List.take_of_length_le (by omega)] at hS
    exact wpAny_pure (hR s' (hm.mono hsub) (hS.keep fun o e => hm.heap a o haw e))
  | succ k ih =>
    intro i s hk hst hS hR
    refine codeAny_builtin F.entry_set_update_loop ?_
    rw [Around.under_plainId F.plain_set_update_loop _]
    show wpAny _ A.in1 (pyNext (.ref I) >>= _) _ _ s
    refine wpAny_bind (W.item i s _ _ (by omega) hst fun v s' hP hst' hm => ?_)
    obtain ⟨x, t, hx, rfl⟩ := hval i v hP
    have hS' := hS.keep (h' := s'.heap) fun o e => hm.heap a o haw e
    show wpAny _ A.in1 (holding [Value.str x t] (setAdd a (.str x t)) >>= _) _ _ s'
    refine wpAny_bind (wpAny_holding ?_)
    unfold setAdd
    refine wpAny_holding (wpAny_bind ((strKind prog w).pyHash (k := x) (strKind_is _ _ _ _) ?_))
    refine set_add (s := { s' with toks := s'.toks + 1 }) hS' (by rw [List.length_take]; omega) fun b h' hsb hS2 => ?_
    have hSi : SetP prog w h' a (xs.take (i + 1)) := by
      rw [List.take_add_one, hx]; exact hS2
    refine wpAny_pure ⟨plainId_quiet F.plain_set_update_loop _, ih (i + 1) _ (by omega) (W.frame _ s' _ _ hst' (Nat.le_succ _) fun b hb o e => ?_) hSi fun s'' hm'' hS'' => ?_⟩
    · rw [hsb.2 b (fun h : b = a => haf (by rw [← h]; exact hb))]; exact e
    · refine hR s'' (Moved.trans W.gtrans ((hm.mono hsub).then_heap (Nat.le_succ _) fun b o hb e => ?_) hm'') hS''
      rw [hsb.2 b (fun h : b = a => hb (by rw [h]; exact List.mem_cons_self))]; exact e
end
open PySem.Calls in
set_option maxHeartbeats 3200000 in
theorem set_callS {prog : Program} {w : World} {A : Around} {E : Value → Shared → Prop} {s : Shared} {l : List Nat} {tx : Tok} {Q : Value → Shared → Prop} (hh : A.handled = none) (h8 : ∀ c ∈ l, c < 128) (hb : l.length + 1 < scanBound)
    (h : ∀ (h' : Heap) (tk : Nat), SetP prog w h' s.heap.objs.size (l.map fun c => S [c]) → (∀ b o, b < s.heap.objs.size → s.heap.get? b = some o → h'.get? b = some o) → Q (.ref s.heap.objs.size) { s with heap := h', toks := tk }) :
    wpAny (model prog w) A (call (.type "set") [.str (S l) tx]) Q E s := by
  refine set_gen (H := fun h' => SetP prog w h' s.heap.objs.size (l.map fun c => S [c])) (fun led => ?_) h
  have g1 : (s.heap.push (freshSet led)).get? s.heap.objs.size = some (freshSet led) := Heap.get?_push_size _ rfl
  have g2 : Shared.TypeIs { s with heap := s.heap.push (freshSet led) } (.ref s.heap.objs.size) "set" := ⟨_, g1, rfl⟩
  have f1 := F.sub_str_set
  have f2 := F.sub_str_frozenset
  have f3 : (Value.type "str" == Value.type "dict") = false := by decide
  have ha : (S l).cps.all (· < 128) = true := by
    rw [← Array.all_toList, S_cps, List.all_eq_true]
    exact fun c hc => decide_eq_true (h8 c hc)
  unfold Builtin.«set.__init__» noKeywords Builtin.Frozenset.updateFrom
  generalize hPI : pyIter = PI
  wp_walk
  subst hPI
  refine wpAny_pyIter_ascii ha (wpAny_bind (wpAny_runValue ?_))
  have hsz : (s.heap.push (freshSet led)).objs.size = s.heap.objs.size + 1 := Heap.size_push ..
  have hlen : (S l).cps.size = l.length := S_size l
  refine set_loopP ((Walks.strAscii (show A.in1.in1.in1.handled = none by simp [hh]) _ (S l) tx).toS) s.heap.objs.size (by rw [hsz]; simp only [List.mem_cons, List.not_mem_nil, or_false]; exact Nat.ne_of_lt (Nat.lt_succ_self _)) (l.map fun c => S [c]) (by rw [List.length_map, hlen])
    (fun i v hv => ?_) (by rw [hlen]; exact hb) (S l).cps.size 0 _ (Nat.zero_add _) ⟨_, Heap.get?_push_size _ rfl, rfl, rfl⟩ ?_ fun z hm hz => ?_
  · obtain ⟨c, u, hc, rfl⟩ := hv
    refine ⟨S [c], u, ?_, rfl⟩
    have : l[i]? = some c := by simpa [S] using hc
    rw [List.getElem?_map, this]; rfl
  · refine ⟨_, #[], 0, _, Heap.get?_push_of_some _ g1, ⟨rfl, rfl, rfl⟩, rfl, (fun e he => by cases he), (fun k => ?_), by decide, rfl, Nat.zero_le _, fun h => absurd h (Nat.lt_irrefl 0)⟩
    simp
  · obtain ⟨h', g', d', tk', os'⟩ := z
    obtain rfl : g' = s.gens := hm.gens
    obtain rfl : d' = s.drawn := hm.drawn
    obtain rfl : os' = s.os := hm.os
    show wpAny _ _ _ _ _ _
    refine wpAny_pure ?_
    show wpAny _ _ (ret Value.none) _ _ _
    refine wpAny_pure ⟨rfl, h', tk', rfl, hz, fun b o hb e => hm.heap b o ?_ (Heap.get?_push_of_some _ (Heap.get?_push_of_some _ e))⟩
    rw [hsz]; simp only [List.mem_cons, List.not_mem_nil, or_false, not_or]; exact ⟨Nat.ne_of_lt hb, Nat.ne_of_lt (Nat.lt_succ_of_lt hb)⟩
end
section
open PySem PySem.W PyProof.Rows PySem.Calls
theorem pick_go {α : Type} (next : Nat → Nat) (P : α → Prop) : ∀ (fuel k : Nat) (left : List α) (out : Array α), fuel = left.length → (∀ x ∈ left, P x) → (∀ x ∈ out.toList, P x) →
    (pickOrder.go next fuel k left out).size = out.size + left.length ∧ ∀ x ∈ (pickOrder.go next fuel k left out).toList, P x
  | 0, k, left, out, hf, hl, ho => by
    have : left = [] := List.length_eq_zero_iff.mp hf.symm
    subst this
    exact ⟨rfl, ho⟩
  | fuel + 1, k, left, out, hf, hl, ho => by
    have hlt : next k % left.length < left.length := Nat.mod_lt _ (by omega)
    have e : left[next k % left.length]? = some left[next k % left.length] := List.getElem?_eq_getElem hlt
    unfold pickOrder.go
    rw [e]
    dsimp only
    have hlen : (left.eraseIdx (next k % left.length)).length = left.length - 1 := List.length_eraseIdx_of_lt hlt
    obtain ⟨h1, h2⟩ := pick_go next P fuel (k + 1) (left.eraseIdx (next k % left.length)) (out.push left[next k % left.length]) (by omega) (fun x hx => hl x (List.mem_of_mem_eraseIdx hx)) (fun x hx => by
      rw [Array.toList_push] at hx
      rcases List.mem_append.mp hx with hx | hx
      · exact ho x hx
      · rw [List.mem_singleton.mp hx]; exact hl _ (List.getElem_mem hlt))
    refine ⟨?_, h2⟩
    rw [h1, Array.size_push]; omega
theorem pick_spec {α : Type} (next : Nat → Nat) (P : α → Prop) (xs : Array α) (h : ∀ x ∈ xs.toList, P x) : (pickOrder next xs).size = xs.size ∧ ∀ x ∈ (pickOrder next xs).toList, P x := by
  unfold pickOrder
  obtain ⟨h1, h2⟩ := pick_go next P xs.size 0 xs.toList #[] (by simp) h (by simp)
  refine ⟨?_, h2⟩
  rw [h1]; simp
section
variable {prog : Program} {w : World} {A : Around} {E : Value → Shared → Prop} {s : Shared}
theorem wp_choose1 {src : Source} {n : Nat} {Q : Nat → Shared → Prop} (hn : n ≠ 0) (h : ∀ i d, i < n → Q i { s with drawn := d }) : wpAny (model prog w) A (choose src n) Q E s :=
  fun _ _ _ => ⟨hn, h _ _ (Nat.mod_lt _ (Nat.pos_of_ne_zero hn))⟩
theorem draw_spec {α : Type} (P : α → Prop) : ∀ (n : Nat) (xs : List α) (s : Shared) (Q : List α → Shared → Prop), n = xs.length → (∀ x ∈ xs, P x) → (∀ ys d, ys.length = n → (∀ y ∈ ys, P y) → Q ys { s with drawn := d }) → wpAny (model prog w) A (drawOrder n xs) Q E s
  | 0, xs, s, Q, _, _, h => by
    unfold drawOrder
    exact wpAny_pure (h [] s.drawn rfl (by simp))
  | n + 1, [], s, Q, hn, _, _ => by cases hn
  | n + 1, x :: xs, s, Q, hn, hP, h => by
    unfold drawOrder
    refine wpAny_bind (wp_choose1 (by simp) fun i d hi => ?_)
    have e : (x :: xs)[i]? = some (x :: xs)[i] := List.getElem?_eq_getElem hi
    rw [e]
    dsimp only
    have hlen : ((x :: xs).eraseIdx i).length = (x :: xs).length - 1 := List.length_eraseIdx_of_lt hi
    refine wpAny_bind (draw_spec P n ((x :: xs).eraseIdx i) _ _ (by omega) (fun y hy => hP y (List.mem_of_mem_eraseIdx hy)) fun ys d2 h1 h2 => wpAny_pure ?_)
    refine h _ d2 (by simp [h1]) fun y hy => ?_
    rcases List.mem_cons.mp hy with rfl | hy
    · exact hP _ (List.getElem_mem hi)
    · exact h2 y hy
noncomputable def SetSt (prog : Program) (w : World) (I a T : Addr) (xs : List PySem.Str) (n i : Nat) (s : Shared) : Prop :=
  ∃ o es ep t oI first, s.heap.get? a = some o ∧ o.data = .set es ep t ∧ t.fits es.size = true ∧ es.size = n ∧ (∀ e ∈ es.toList, ∃ x u, e.2 = .str x u ∧ x ∈ xs) ∧
    s.heap.get? I = some oI ∧ oI.cls = .type "set_iterator" ∧ oI.data = .fields #[first, .int ((i : Nat) : Int) 0, .ref a, .int ((n : Nat) : Int) 0, .int ((ep : Nat) : Int) 0] ∧
    ((w.params.followText "set-order" = true ∧ first = .int 0 0) ∨ (w.params.followText "set-order" = false ∧ ∃ oT pl k, first = .ref T ∧ s.heap.get? T = some oT ∧ oT.data = .seq pl k ∧ pl.size = n ∧ ∀ v ∈ pl.toList, ∃ p : Nat, v = .int (p : Int) 0 ∧ p < n))
noncomputable def TextIn (xs : List PySem.Str) (_ : Nat) (v : Value) : Prop := ∃ x u, v = .str x u ∧ x ∈ xs
theorem walk_of {a : Addr} {o : Obj} {es : Array (Int × Value)} {ep : Nat} {t : SetTable} {Q : Array (Int × Value) → Shared → Prop} (ho : s.heap.get? a = some o) (hd : o.data = .set es ep t) (hf : t.fits es.size = true) (hb : w.params.followText "set-order" = true)
    (h : Q (pickOrder (w.params.setOrder a ep) es) s) : wpAny (model prog w) A (setWalk a) Q E s := by
  unfold setWalk
  refine wpAny_bind (wpAny_setState_of ho hd hf ?_)
  dsimp only
  unfold setsByText
  refine wpAny_bind (wpAny_bind (wpAny_askSetting (wpAny_pure ?_)))
  dsimp only
  rw [show (model prog w).w.params = w.params from rfl, hb]
  simp only [↓reduceIte]
  exact wpAny_bind (wpAny_askSetting (wpAny_pure h))
end
end
section
open PySem PySem.W PyProof.Rows PySem.Calls
section
variable {prog : Program} {w : World} {A : Around} {E : Value → Shared → Prop} {s : Shared}
theorem setIt_next_item {I a T : Addr} {xs : List PySem.Str} {n i : Nat} {Q : Option Value → Shared → Prop} (hI : a ≠ I) (hIT : T ≠ I) (hi : i < n) (hst : SetSt prog w I a T xs n i s)
    (hQ : ∀ v h', TextIn xs i v → SetSt prog w I a T xs n (i + 1) { s with heap := h' } → Heap.SameBut I s.heap h' → Q (some v) { s with heap := h' }) :
    wpAny (model prog w) A (pyNext (.ref I)) Q E s := by
  obtain ⟨o, es, ep, t, oI, first, ho, hd, hf, hn, hes, hoI, hcI, hdI, hb⟩ := hst
  have hT : s.TypeIs (.ref I) "set_iterator" := ⟨oI, hoI, hcI⟩
  unfold pyNext
  refine wpAny_bind (wpAny_attempt (wpAny_callSpecial?_slot (name := Str.ofString "__next__") hT slot_sit_next
    (wpAny_call_entry slot_sit_next hT entry_sit_next ?_ (args_sit_next _))))
  show wpAny _ _ (fieldsOf (.ref I) >>= _) _ _ s
  refine wpAny_bind (wpAny_fieldsOf hoI hdI ?_)
  dsimp only
  unfold setEntries
  refine wpAny_bind (wpAny_bind (wpAny_setState_of ho hd hf (wpAny_pure ?_)))
  dsimp only
  rw [show ((es.size : Int) != ((n : Nat) : Int)) = false by simp [hn]]
  simp only [Bool.false_eq_true, if_false]
  have fin : ∀ h1 v, TextIn xs i v → Heap.SameBut I s.heap h1 → (∃ o1, h1.get? I = some o1 ∧ o1.cls = .type "set_iterator" ∧ o1.data = .fields #[first, .int (((i + 1 : Nat)) : Int) 0, .ref a, .int ((n : Nat) : Int) 0, .int ((ep : Nat) : Int) 0]) → Q (some v) { s with heap := h1 } := by
    rintro h1 v hv hs ⟨o1, e1, e2, e3⟩
    refine hQ v h1 hv ⟨o, es, ep, t, o1, first, ?_, hd, hf, hn, hes, e1, e2, e3, ?_⟩ hs
    · exact hs.extBut _ _ hI ho
    · rcases hb with hb | ⟨hb, oT, pl, k, q1, q2, q3⟩
      · exact .inl hb
      · exact .inr ⟨hb, oT, pl, k, q1, hs.extBut _ _ hIT q2, q3⟩
  rcases hb with ⟨hb, rfl⟩ | ⟨hb, oT, pl, k, rfl, hoT, hdT, hpl, hpv⟩
  · dsimp only
    unfold setNext
    refine wpAny_bind (wpAny_bind (wpAny_setState_of ho hd hf ?_))
    dsimp only
    unfold setsByText
    refine wpAny_bind (wpAny_bind (wpAny_askSetting (wpAny_pure ?_)))
    dsimp only
    rw [show (model prog w).w.params = w.params from rfl, hb]
    simp only [↓reduceIte, Int.toNat_natCast, bne_self_eq_false, Bool.false_eq_true]
    refine wpAny_bind (walk_of ho hd hf hb ?_)
    obtain ⟨hsz, hall⟩ := pick_spec (w.params.setOrder a ep) (fun e : Int × Value => ∃ x u, e.2 = .str x u ∧ x ∈ xs) es hes
    have hlt : i < (pickOrder (w.params.setOrder a ep) es).size := by rw [hsz, hn]; exact hi
    rw [Array.getElem?_eq_getElem hlt]
    have hv := hall _ (Array.getElem_mem_toList hlt)
    refine wpAny_pure ?_
    dsimp only [Option.map_some]
    refine wpAny_bind (wpAny_setField hoI hdI (by simp) ?_)
    have ho1 := Heap.get?_update_self (Obj.mapFields (·.setIfInBounds 0 (rawInt ((0 : Int).toNat : Int)))) hoI (Obj.isFreed_of_fields (Obj.data_mapFields hdI _))
    refine wpAny_bind (wpAny_setField ho1 (Obj.data_mapFields hdI _) (by simp) ?_)
    refine wpAny_pure ⟨_, rfl, wpAny_pure (fin _ _ hv ((Heap.SameBut.update ..).trans (Heap.SameBut.update ..)) ?_)⟩
    refine ⟨_, Heap.get?_update_self _ ho1 (Obj.isFreed_of_fields (Obj.data_mapFields (Obj.data_mapFields hdI _) _)), (Obj.cls_mapFields ..).trans ((Obj.cls_mapFields ..).trans hcI), ?_⟩
    rw [Obj.data_mapFields (Obj.data_mapFields hdI _)]
    simp [rawInt]
  · dsimp only
    refine wpAny_bind (wpAny_seqItems hoT hdT ?_)
    dsimp only
    have hlt : i < pl.size := by rw [hpl]; exact hi
    simp only [Int.toNat_natCast, Array.getElem?_eq_getElem hlt]
    obtain ⟨p, hp, hpn⟩ := hpv _ (Array.getElem_mem_toList hlt)
    rw [show pl[i] = .int (p : Int) 0 from hp]
    dsimp only
    unfold setNextDrawn
    refine wpAny_bind (wpAny_bind (wpAny_setState_of ho hd hf ?_))
    dsimp only
    have hlt2 : p < es.size := by rw [hn]; exact hpn
    simp only [Int.toNat_natCast, bne_self_eq_false, Bool.false_eq_true, if_false, Array.getElem?_eq_getElem hlt2]
    have hv := hes _ (Array.getElem_mem_toList hlt2)
    refine wpAny_pure ?_
    refine wpAny_bind (wpAny_setField hoI hdI (by simp) ?_)
    refine wpAny_pure ⟨_, rfl, wpAny_pure (fin _ _ hv (Heap.SameBut.update ..) ?_)⟩
    refine ⟨_, Heap.get?_update_self _ hoI (Obj.isFreed_of_fields (Obj.data_mapFields hdI _)), (Obj.cls_mapFields ..).trans hcI, ?_⟩
    rw [Obj.data_mapFields hdI]
    simp [rawInt]
theorem setIt_next_end {I a T : Addr} {xs : List PySem.Str} {n : Nat} {Q : Option Value → Shared → Prop} (hh : A.handled = none) (hst : SetSt prog w I a T xs n n s)
    (hQ : ∀ h', Heap.ExtBut I s.heap h' → Q none { s with heap := h' }) :
    wpAny (model prog w) A (pyNext (.ref I)) Q E s := by
  obtain ⟨o, es, ep, t, oI, first, ho, hd, hf, hn, hes, hoI, hcI, hdI, hb⟩ := hst
  have hT : s.TypeIs (.ref I) "set_iterator" := ⟨oI, hoI, hcI⟩
  unfold pyNext
  refine wpAny_bind (wpAny_attempt (wpAny_callSpecial?_slot (name := Str.ofString "__next__") hT slot_sit_next
    (wpAny_call_entry slot_sit_next hT entry_sit_next ?_ (args_sit_next _))))
  show wpAny _ _ (fieldsOf (.ref I) >>= _) _ _ s
  refine wpAny_bind (wpAny_fieldsOf hoI hdI ?_)
  dsimp only
  unfold setEntries
  refine wpAny_bind (wpAny_bind (wpAny_setState_of ho hd hf (wpAny_pure ?_)))
  dsimp only
  rw [show ((es.size : Int) != ((n : Nat) : Int)) = false by simp [hn]]
  simp only [Bool.false_eq_true, if_false]
  rcases hb with ⟨hb, rfl⟩ | ⟨hb, oT, pl, k, rfl, hoT, hdT, hpl, hpv⟩
  · dsimp only
    unfold setNext
    refine wpAny_bind (wpAny_bind (wpAny_setState_of ho hd hf ?_))
    dsimp only
    unfold setsByText
    refine wpAny_bind (wpAny_bind (wpAny_askSetting (wpAny_pure ?_)))
    dsimp only
    rw [show (model prog w).w.params = w.params from rfl, hb]
    simp only [↓reduceIte, Int.toNat_natCast, bne_self_eq_false, Bool.false_eq_true]
    refine wpAny_bind (walk_of ho hd hf hb ?_)
    obtain ⟨hsz, hall⟩ := pick_spec (w.params.setOrder a ep) (fun e : Int × Value => ∃ x u, e.2 = .str x u ∧ x ∈ xs) es hes
    rw [Array.getElem?_eq_none (by rw [hsz, hn]; exact Nat.le_refl _)]
    refine wpAny_pure ?_
    dsimp only [Option.map_none]
    refine wpAny_bind (wpAny_setField hoI hdI (by simp) ?_)
    show wpAny _ _ (newExc (.type "StopIteration") [] >>= _) _ _ _
    refine wpAny_bind ?_
    simp only [newExc, newTuple]
    refine wpAny_bind (wpAny_newObj_type ?_ (by size_fits))
    refine wpAny_bind (m := firstArgMember _ _) (wpAny_of_eq (a := Value.none) (by first | rfl | (simp only [firstArgMember]; rfl)) ?_)
    refine wpAny_newObj_type ?_ (by size_fits)
    simp only [raiseNew]
    refine wpAny_bind (wpAny_handled ?_)
    first | rw [show A.in1.handled = none from hh] | rw [hh]
    refine wpAny_bind (wpAny_pure (wpAny_throw ?_))
    refine wpAny_bind (wpAny_isInstance (T := "StopIteration") (b := true) ⟨_, Heap.get?_push_size _ rfl, rfl⟩ isSubtype_stop ?_)
    exact wpAny_pure (hQ _ (((Heap.SameBut.update ..).extBut.push _).push _))
  · dsimp only
    refine wpAny_bind (wpAny_seqItems hoT hdT ?_)
    dsimp only
    simp only [Int.toNat_natCast]
    rw [Array.getElem?_eq_none (by rw [hpl]; exact Nat.le_refl _)]
    dsimp only
    refine wpAny_bind (wpAny_setField hoI hdI (by simp) ?_)
    have ho1 := Heap.get?_update_self (Obj.mapFields (·.setIfInBounds 0 (rawInt 0))) hoI (Obj.isFreed_of_fields (Obj.data_mapFields hdI _))
    refine wpAny_bind (wpAny_setField ho1 (Obj.data_mapFields hdI _) (by simp) ?_)
    show wpAny _ _ (newExc (.type "StopIteration") [] >>= _) _ _ _
    refine wpAny_bind ?_
    simp only [newExc, newTuple]
    refine wpAny_bind (wpAny_newObj_type ?_ (by size_fits))
    refine wpAny_bind (m := firstArgMember _ _) (wpAny_of_eq (a := Value.none) (by first | rfl | (simp only [firstArgMember]; rfl)) ?_)
    refine wpAny_newObj_type ?_ (by size_fits)
    simp only [raiseNew]
    refine wpAny_bind (wpAny_handled ?_)
    first | rw [show A.in1.handled = none from hh] | rw [hh]
    refine wpAny_bind (wpAny_pure (wpAny_throw ?_))
    refine wpAny_bind (wpAny_isInstance (T := "StopIteration") (b := true) ⟨_, Heap.get?_push_size _ rfl, rfl⟩ isSubtype_stop ?_)
    exact wpAny_pure (hQ _ ((((Heap.SameBut.update ..).trans (Heap.SameBut.update ..)).extBut.push _).push _))
end
end
section
open PySem PySem.W PyProof.Rows PySem.Calls
theorem slot_sit_iter : Slot "set_iterator" "__iter__" "set_iterator.__iter__" :=
  .of (owner := "set_iterator") (n := "__iter__") (by rw [typeLookup_type, builtinLookup_eq_fast]; kernel_rfl) (by decide +kernel) (by decide +kernel) (by decide +kernel)
    (by first | exact .inl (by decide +kernel) | exact .inr (by decide +kernel)) (by rw [isSubtype_type]; kernel_rfl)
theorem entry_sit_iter : entryFor table "set_iterator.__iter__" = some Builtin.«dict_keyiterator.__iter__» :=
  entryFor_alias (id' := "dict_keyiterator.__iter__") (by kernel_rfl) (by first | rfl | decide +kernel | (unfold String.splitOn; simp +decide [String.splitOnAux])) (by decide +kernel) (by kernel_rfl)
theorem args_sit_iter (a : Value) : argsOk "set_iterator.__iter__" ⟨[a], []⟩ := by
  unfold argsOk; rw [signature?_of (id := "set_iterator.__iter__") (n := ['_', '_', 'r', 'e', 't', 'i', '_', '_']) (o := ['r', 'o', 't', 'a', 'r', 'e', 't', 'i', '_', 't', 'e', 's']) (by kernel_rfl) owner_sit]; kernel_rfl
theorem set_len : typeLookup (.type "set") "__len__" = pure (some (.builtin "set.__len__")) := by rw [typeLookup_type, builtinLookup_eq_fast]; kernel_rfl
theorem SetSt.frame {prog : Program} {w : World} {I a T : Addr} {xs : List PySem.Str} {n i : Nat} {s s' : Shared} (h : SetSt prog w I a T xs n i s) (k : ∀ b ∈ [I, a, T], ∀ o, s.heap.get? b = some o → s'.heap.get? b = some o) : SetSt prog w I a T xs n i s' := by
  obtain ⟨o, es, ep, t, oI, first, ho, hd, hf, hn, hes, hoI, hcI, hdI, hb⟩ := h
  refine ⟨o, es, ep, t, oI, first, k a (by simp) _ ho, hd, hf, hn, hes, k I (by simp) _ hoI, hcI, hdI, ?_⟩
  rcases hb with hb | ⟨hb, oT, pl, kk, q1, q2, q3⟩
  · exact .inl hb
  · exact .inr ⟨hb, oT, pl, kk, q1, k T (by simp) _ q2, q3⟩
section
variable {prog : Program} {w : World} {A : Around} {E : Value → Shared → Prop} {s : Shared}
theorem walksSet (hh : A.handled = none) {I a T : Addr} (hI : a ≠ I) (hIT : T ≠ I) (xs : List PySem.Str) (n : Nat) :
    WalksS prog w A I [I, a, T] [I] (fun x y => y = x) n (TextIn xs) (SetSt prog w I a T xs n) where
  sub := fun b hb => by simp at hb; simp [hb]
  grefl := fun _ => rfl
  gtrans := fun _ _ _ h1 h2 => h2.trans h1
  frame := fun i s h' _ st _ hk => SetSt.frame st hk
  item := fun i s Q E hi st hQ => setIt_next_item hI hIT hi st fun v h' hv hs' hs => hQ v _ hv hs' ⟨fun b o hb e => hs.extBut b o (fun h => hb (by simp [h])) e, rfl, rfl, rfl, Nat.le_refl _⟩
  done := fun s Q E st hQ => setIt_next_end hh st fun h' he => hQ _ ⟨fun b o hb e => he b o (fun h => hb (by simp [h])) e, rfl, rfl, rfl, Nat.le_refl _⟩
  self := fun i s Q E st hQ => by
    obtain ⟨o, es, ep, t, oI, first, ho, hd, hf, hn, hes, hoI, hcI, hdI, hb⟩ := st
    have hT : s.TypeIs (.ref I) "set_iterator" := ⟨oI, hoI, hcI⟩
    refine wpAny_pyIter_slot hT slot_sit_iter (wpAny_call_entry slot_sit_iter hT entry_sit_iter ?_ (args_sit_iter _))
    show wpAny _ _ (ret (.ref I)) _ _ s
    exact wpAny_pure ⟨_, rfl, "set_iterator", _, hT, slot_sit_next.lookup, hQ⟩
theorem set_two {a : Addr} {xs : List PySem.Str} {h : Heap} (hS : SetP prog w h a xs) {x y : PySem.Str} (hx : x ∈ xs) (hy : y ∈ xs) (hxy : x ≠ y) :
    ∃ o es ep t, h.get? a = some o ∧ o.cls = .type "set" ∧ o.data = .set es ep t ∧ t.fits es.size = true ∧ 1 < es.size ∧ es.size ≤ xs.length ∧ t.plain = false ∧ ∀ e ∈ es.toList, ∃ x u, e.2 = .str x u ∧ x ∈ xs := by
  obtain ⟨o, es, ep, t, ho, hex, hd, hel, hmem, hb, hf, hn, hpl⟩ := hS
  obtain ⟨e1, m1, k1⟩ := (hmem x).mp (decide_eq_true hx)
  obtain ⟨e2, m2, k2⟩ := (hmem y).mp (decide_eq_true hy)
  have hne : e1 ≠ e2 := fun e => hxy ((strKind prog w).inj _ _ _ k1 (e ▸ k2))
  have h2 : 1 < es.size := by
    rw [← Array.length_toList]
    rcases hl : es.toList with _ | ⟨u, _ | ⟨v, r⟩⟩
    · rw [hl] at m1; cases m1
    · rw [hl] at m1 m2
      exact absurd ((List.mem_singleton.mp m1).trans (List.mem_singleton.mp m2).symm) hne
    · simp
  refine ⟨o, es, ep, t, ho, hex.1, hd, hf, h2, hn, hpl (by omega), fun e he => ?_⟩
  obtain ⟨⟨k, hk, _⟩, _⟩ := hel e he
  obtain ⟨u, hu⟩ := Value.isStrOf_shape hk
  exact ⟨k, u, hu, of_decide_eq_true ((hmem k).mpr ⟨e, he, hk⟩)⟩
theorem setP_iter {a : Addr} {xs : List PySem.Str} {Q : Value → Shared → Prop} (hS : SetP prog w s.heap a xs) {x y : PySem.Str} (hx : x ∈ xs) (hy : y ∈ xs) (hxy : x ≠ y) (hlen : xs.length ≤ 1000)
    (hQ : ∀ I T n h' d, (T = a ∨ @LE.le Nat _ s.heap.objs.size T) → s.heap.objs.size ≤ I → I < h'.objs.size → T < h'.objs.size → a ≠ I → T ≠ I → n ≤ xs.length → (∀ b o, s.heap.get? b = some o → h'.get? b = some o) → SetSt prog w I a T xs n 0 { s with heap := h', drawn := d } → Q (.ref I) { s with heap := h', drawn := d }) :
    wpAny (model prog w) A (pyIter (.ref a)) Q E s := by
  obtain ⟨o, es, ep, t, ho, hc, hd, hf, h2, hle, hpl, hes⟩ := set_two hS hx hy hxy
  have hT : s.TypeIs (.ref a) "set" := ⟨o, ho, hc⟩
  have halt := Heap.lt_size ho
  refine wpAny_pyIter_slot hT F.slot_set_iter (wpAny_call_entry F.slot_set_iter hT entry_set_iter ?_ (F.args_set_iter_1 _))
  show wpAny _ _ (Builtin.Frozenset.sizeOf a >>= _) _ _ s
  unfold Builtin.Frozenset.sizeOf setEntries
  refine wpAny_bind (wpAny_bind (wpAny_bind (wpAny_setState_of ho hd hf (wpAny_pure (wpAny_pure ?_)))))
  dsimp only
  unfold setDrawn
  refine wpAny_bind (wpAny_bind (wpAny_setState_of ho hd hf ?_))
  dsimp only
  unfold setsByText
  refine wpAny_bind (wpAny_bind (wpAny_askSetting (wpAny_pure (wpAny_pure ?_))))
  dsimp only
  rw [show (model prog w).w.params = w.params from rfl]
  cases hb : w.params.followText "set-order" with
  | true =>
    simp only [Bool.not_true, Bool.false_and, Bool.false_eq_true, if_false]
    refine wpAny_bind (wpAny_pure ?_)
    unfold setEpoch
    refine wpAny_bind (wpAny_bind (wpAny_setState_of ho hd hf (wpAny_pure ?_)))
    refine wpAny_bind (wpAny_newObj_type (wpAny_pure ⟨_, rfl, "set_iterator", _, ⟨_, Heap.get?_push_size _ rfl, rfl⟩, slot_sit_next.lookup, ?_⟩))
    refine hQ s.heap.objs.size a es.size _ s.drawn (.inl rfl) (Nat.le_refl _) (by rw [Heap.size_push]; exact Nat.lt_succ_self _) (by rw [Heap.size_push]; exact Nat.lt_succ_of_lt halt) (Nat.ne_of_lt halt) (Nat.ne_of_lt halt) hle (fun b o e => Heap.get?_push_of_some _ e) ?_
    exact ⟨o, es, ep, t, _, .int 0 0, Heap.get?_push_of_some _ ho, hd, hf, rfl, hes, Heap.get?_push_size _ rfl, rfl, rfl, .inl ⟨hb, rfl⟩⟩
  | false =>
    have hdr : (!t.plain && decide (1 < es.size)) = true := by rw [hpl, decide_eq_true h2]; rfl
    simp only [Bool.not_false, Bool.true_and]
    split
    case isFalse hno => exact absurd hdr hno
    refine wpAny_bind (draw_spec (fun i => i < es.size) es.size (List.range es.size) _ _ (by simp) (fun x hx => List.mem_range.mp hx) fun ys d hy1 hy2 => ?_)
    refine wpAny_bind (wpAny_newTuple ?_ (by size_fits))
    unfold setEpoch
    have ho1 : (s.heap.push { cls := .type "tuple", data := .seq ((ys.map fun (i : Nat) => rawInt i).toArray) }).get? a = some o := Heap.get?_push_of_some _ ho
    refine wpAny_bind (wpAny_bind (wpAny_setState_of ho1 hd hf (wpAny_pure ?_)))
    refine wpAny_bind (wpAny_newObj_type (wpAny_pure ⟨_, rfl, "set_iterator", _, ⟨_, Heap.get?_push_size _ rfl, rfl⟩, slot_sit_next.lookup, ?_⟩))
    have hsz : (s.heap.push { cls := .type "tuple", data := .seq ((ys.map fun (i : Nat) => rawInt i).toArray) }).objs.size = s.heap.objs.size + 1 := Heap.size_push ..
    refine hQ _ s.heap.objs.size es.size _ d (.inr (Nat.le_refl _)) ?a1 ?a2 ?a3 ?a4 ?a5 hle (fun b o e => Heap.get?_push_of_some _ (Heap.get?_push_of_some _ e)) ?_
    case a1 => show _ ≤ Array.size _; rw [hsz]; exact Nat.le_succ _
    case a2 => simp only [Heap.size_push]; exact Nat.lt_succ_self _
    case a3 => simp only [Heap.size_push]; exact Nat.lt_succ_of_lt (Nat.lt_succ_self _)
    case a4 => show @Ne Nat _ _; simp only [Heap.size_push]; exact Nat.ne_of_lt (Nat.lt_succ_of_lt halt)
    case a5 => show @Ne Nat _ _; simp only [Heap.size_push]; exact Nat.ne_of_lt (Nat.lt_succ_self _)
    refine ⟨o, es, ep, t, _, .ref s.heap.objs.size, Heap.get?_push_of_some _ ho1, hd, hf, rfl, hes, Heap.get?_push_size _ rfl, rfl, rfl, .inr ⟨hb, _, (ys.map fun (i : Nat) => rawInt i).toArray, 0, rfl, Heap.get?_push_of_some _ (Heap.get?_push_size _ rfl), rfl, by simp [hy1], fun v hv => ?_⟩⟩
    obtain ⟨p, hp, rfl⟩ := List.mem_map.mp hv
    exact ⟨p, rfl, hy2 p hp⟩
end
end
section
open PySem PySem.W PyProof.Rows PySem.Calls
section
variable {prog : Program} {w : World} {A : Around} {E : Value → Shared → Prop} {s : Shared}
theorem collect_setP {a : Addr} {xs : List PySem.Str} {Q : List Value → Shared → Prop} (hh : A.handled = none) (hS : SetP prog w s.heap a xs) {x y : PySem.Str} (hx : x ∈ xs) (hy : y ∈ xs) (hxy : x ≠ y) (hlen : xs.length ≤ 1000)
    (hQ : ∀ s' acc n, (∀ b o, s.heap.get? b = some o → s'.heap.get? b = some o) → s'.gens = s.gens → s'.os = s.os → @LT.lt Nat _ s.heap.objs.size s'.heap.objs.size → n ≤ xs.length → ItemsOf (TextIn xs) acc n → Q acc.toList s') :
    wpAny (model prog w) A (collect (.ref a)) Q E s := by
  have halt : a < s.heap.objs.size := by obtain ⟨o, es, ep, t, ho, _⟩ := hS; exact Heap.lt_size ho
  unfold collect
  refine wpAny_bind (wpAny_runValue (codeAny_builtin F.entry_proto_collect ?_))
  rw [Around.under_plainId F.plain_proto_collect _]
  show wpAny _ A.in1 (newList [] >>= fun l => again (.builtin "list.__iadd__" ⟨[l, .ref a], []⟩)) _ _ s
  refine wpAny_bind (wpAny_newObj_type ?_)
  refine wpAny_pure ⟨plainId_quiet F.plain_list_iadd _, codeAny_builtin F.entry_list_iadd ?_⟩
  rw [Around.under_plainId F.plain_list_iadd _]
  generalize hl : s.heap.objs.size = l at *
  have hS1 : SetP prog w (s.heap.push { cls := .type "list", data := .seq ([] : List Value).toArray }) a xs := hS.keep fun o e => Heap.get?_push_of_some _ e
  have gl : (s.heap.push { cls := .type "list", data := .seq ([] : List Value).toArray }).get? l = some { cls := .type "list", data := .seq ([] : List Value).toArray } := by rw [← hl]; exact Heap.get?_push_size _ rfl
  have up : ∀ b o, s.heap.get? b = some o → (s.heap.push { cls := .type "list", data := .seq ([] : List Value).toArray }).get? b = some o := fun b o e => Heap.get?_push_of_some _ e
  have hsz : (s.heap.push { cls := .type "list", data := .seq ([] : List Value).toArray }).objs.size = l + 1 := by rw [Heap.size_push, hl]
  have lts : ∀ b o, s.heap.get? b = some o → b < l := fun b o e => by rw [← hl]; exact Heap.lt_size e
  generalize s.heap.push { cls := .type "list", data := .seq ([] : List Value).toArray } = H at *
  have hT : ({ s with heap := H } : Shared).TypeIs (.ref a) "set" := by obtain ⟨o, _, _, _, _, _, ho, hc, _⟩ := set_two hS1 hx hy hxy; exact ⟨o, ‹_›, ‹_›⟩
  show wpAny _ A.in1 (Builtin.List.listExtendWith (.ref l) (.ref a) (.ref l)) _ _ _
  unfold Builtin.List.listExtendWith
  refine wpAny_bind (wpAny_typeOf hT ?_)
  have hne : l ≠ a := fun e => Nat.lt_irrefl _ (e ▸ halt)
  have h1 : Builtin.List.listSameRef (.ref l) (.ref a) = false := by simp [Builtin.List.listSameRef, hne]
  have h2 : (Value.type "set" == Value.type "list") = false := by decide
  have h3 : (Value.type "set" == Value.type "tuple") = false := by decide
  simp only [h1, h2, h3, Bool.or_false, Bool.false_eq_true, if_false]
  refine wpAny_bind (setP_iter (s := { s with heap := H }) hS1 hx hy hxy hlen fun I T n h' d q0 q1 q2 q3 q4 q5 q6 q7 st => ?_)
  have hT2 : ({ s with heap := h', drawn := d } : Shared).TypeIs (.ref a) "set" := by obtain ⟨o, e1, e2⟩ := hT; exact ⟨o, q7 _ _ e1, e2⟩
  refine wpAny_bind (wpAny_holding ?_)
  unfold Builtin.List.listLengthHint
  refine wpAny_bind (wpAny_specialOf hT2 set_len ?_)
  wp_delta
  refine wpAny_bind (wpAny_isInstance (T := "set") (b := true) hT2 (by rw [isSubtype_type]; kernel_rfl) ?_)
  show wpAny _ A.in1 (typeOf (Value.ref a) >>= _) _ _ _
  refine wpAny_bind (wpAny_typeOf hT2 ?_)
  refine wpAny_pure ?_
  rw [if_pos (by decide)]
  have hlI : l < I := by
    have q1' : @LE.le Nat _ H.objs.size I := q1
    rw [hsz] at q1'; exact q1'
  have hlT : l ∉ [I, a, T] := by
    intro hm
    simp only [List.mem_cons, List.not_mem_nil, or_false] at hm
    rcases hm with e | e | e
    · exact absurd hlI (e ▸ Nat.lt_irrefl _)
    · exact hne e
    · rcases q0 with e2 | e2
      · exact hne (e.trans e2)
      · have e2' : @LE.le Nat _ H.objs.size T := e2
        rw [hsz, ← e] at e2'; exact absurd e2' (Nat.not_succ_le_self _)
  show wpAny _ A.in1 (rule "list.extend.makes-room" >>= fun _ => Builtin.List.listTouch (.ref l) >>= fun _ =>
    again (.builtin "list.extend.loop" ⟨[.ref l, .ref I, .ref l], []⟩)) _ _ _
  refine wpAny_bind (wpAny_rule ?_)
  have gl1 := q7 _ _ gl
  refine wpAny_bind ?_
  show wpAny _ A.in1 (updateSeq l (·.push .none) >>= fun _ => updateSeq l (·.pop)) _ _ _
  refine wpAny_bind (wpAny_updateSeq gl1 rfl ?_)
  have gl2 := Heap.get?_update_self (Obj.mapSeq (·.push Value.none)) gl1 rfl
  refine wpAny_updateSeq gl2 rfl ?_
  have gl3 := Heap.get?_update_self (Obj.mapSeq (·.pop)) gl2 rfl
  have oth : ∀ b o, b ≠ l → h'.get? b = some o → ((h'.update l (Obj.mapSeq (·.push Value.none))).update l (Obj.mapSeq (·.pop))).get? b = some o :=
    fun b o hb e => (Heap.get?_update_other _ _ (Ne.symm hb)).trans ((Heap.get?_update_other _ _ (Ne.symm hb)).trans e)
  have st3 := SetSt.frame (s' := { s with heap := ((h'.update l (Obj.mapSeq (·.push Value.none))).update l (Obj.mapSeq (·.pop))), drawn := d }) st fun b hb o e => oth b o (fun h => hlT (h ▸ hb)) e
  refine wpAny_pure ⟨plainId_quiet F.plain_extend_loop _, codeAny_extend_loopS (walksSet (A := A.in1) hh q4 q5 xs n) (by rw [sizeLine_eq]; omega) l hlT _ n 0 _ _ _ rfl (Nat.zero_le _) st3 gl3 (ItemsOf.nil _) fun s' acc' c' hm hS' hacc => ?_⟩
  show wpAny _ A (load l >>= _) _ _ s'
  refine wpAny_bind (wpAny_load hS' ?_)
  refine wpAny_pure (hQ s' acc' n (fun b ob e => hm.heap b ob (fun hb => ?_) (oth _ _ (fun h => absurd (lts _ _ e) (h ▸ Nat.lt_irrefl _)) (q7 _ _ (up _ _ e)))) hm.gens hm.os (Heap.lt_size hS') q6 hacc)
  have hlt := lts _ _ e
  rcases List.mem_cons.mp hb with h | h
  · exact absurd hlt (h ▸ Nat.lt_irrefl _)
  · rw [List.mem_singleton.mp h] at hlt
    exact absurd (Nat.lt_trans hlt hlI) (Nat.lt_irrefl _)
end
end
section
open PySem PySem.W PyProof.Rows PySem.Calls PyProof.Rows.LCg
theorem chars_lib {l : List Nat} : ∀ {vs : List Value} {ss : List PySem.Str}, PyProof.Rows.StrsAre vs ss → (∀ x ∈ ss, x ∈ l.map fun c => S [c]) → ∃ ls, CharsAre vs ls ∧ ls.length = ss.length ∧ ∀ c ∈ ls, c ∈ l
  | _, _, .nil, _ => ⟨[], .nil, rfl, by simp⟩
  | _, _, .cons x t h, hm => by
    obtain ⟨ls, h1, h2, h3⟩ := chars_lib h fun y hy => hm y (.tail _ hy)
    obtain ⟨c, hc, rfl⟩ := List.mem_map.mp (hm x (.head _))
    refine ⟨c :: ls, .cons c t h1, by simp [h2], fun d hd => ?_⟩
    rcases List.mem_cons.mp hd with rfl | hd
    · exact hc
    · exact h3 d hd
section
variable {prog : Program} {w : World} {A : Around} {E : Value → Shared → Prop} {s : Shared} {h₀ : Heap} {L : Addr} {m : PySem.Str → Option Value} {news : List (Addr × Obj)} {Q : Value → Shared → Prop}
theorem r_sortSet {a : Addr} {l : List Nat} {c d : Nat} (hh : A.handled = none) (F : Fr h₀ L s.heap m) (N : News h₀ L s.heap news) (hS : SetP prog w s.heap a (l.map fun c => S [c])) (hc : c ∈ l) (hd : d ∈ l) (hcd : c ≠ d) (h64 : l.length < 64)
    (h : ∀ D h' vs ls e dr tk, Fr h₀ L h' m → News h₀ L h' ((D, listOf vs.toArray e) :: news) → CharsAre vs ls → (∀ c ∈ ls, c ∈ l) → ls.length ≤ l.length → AboveAll D news → Q (.ref D) { s with heap := h', drawn := dr, toks := tk }) :
    wpAny (model prog w) A (call (.builtin "sorted") [.ref a]) Q E s := by
  have hS1 : S [c] ≠ S [d] := fun e => by
    have := congrArg (fun x : PySem.Str => x.cps.toList) e
    simp only [S_cps, List.cons.injEq, and_true] at this
    exact hcd this
  refine Calls.call_function_entry kind_sorted plain_sorted entry_sorted (args_sorted1 _) ?_
  unfold Builtin.«sorted»
  refine wpAny_bind (m := checkCount "sorted" 1 1 _) (wpAny_pure ?_)
  refine wpAny_bind (collect_setP (x := S [c]) (y := S [d]) hh hS (List.mem_map.mpr ⟨c, hc, rfl⟩) (List.mem_map.mpr ⟨d, hd, rfl⟩) hS1 (by rw [List.length_map]; omega) fun s' acc n k1 kg ko hge kn hacc => ?_)
  rw [List.length_map] at kn
  obtain ⟨h9, g9, d9, t9, o9⟩ := s'
  replace hge : @LE.le Nat _ s.heap.objs.size h9.objs.size := Nat.le_of_lt hge
  obtain rfl : g9 = s.gens := kg
  obtain rfl : o9 = s.os := ko
  replace k1 : ∀ b o, s.heap.get? b = some o → h9.get? b = some o := k1
  have hall : ∀ v ∈ acc.toList, ∃ x t, v = .str x t ∧ x ∈ l.map fun c => S [c] := fun v hv => by
    obtain ⟨j, hj, e⟩ := List.getElem_of_mem hv
    have h2 : acc[j]? = some v := by rw [Array.getElem?_eq_getElem (by simpa using hj)]; exact congrArg some (by simpa using e)
    exact hacc.2 j v h2
  have hStr := strsAre_map acc.toList fun v hv => by obtain ⟨x, t, e, _⟩ := hall v hv; exact ⟨x, t, e⟩
  have hln : acc.toList.length = n := by rw [Array.length_toList]; exact hacc.1
  refine wpAny_bind (wpAny_newList ?_ (by show acc.toList.length ≤ _; rw [hln, sizeLine_eq]; omega))
  dsimp only
  have hoL : (h9.push (seqObj "list" acc.toList.toArray 0)).get? h9.objs.size = some (seqObj "list" acc.toList.toArray 0) := Heap.get?_push_size _ rfl
  refine wpAny_bind (wpAny_holding (wpAny_call_entry slot_list_sort ⟨_, hoL, rfl⟩ entry_list_sort (list_sort_treeK strKind_oneLt hoL hStr.keysOf (fun v₁ v₂ rest e => keyKind_strs (by rw [← e]; exact hStr)) (by omega) fun st' hp hs => ⟨_, rfl, ?_⟩) (args_list_sort _)))
  obtain ⟨ss', q1, q2, q3⟩ := sorted_out_str hStr hp hs
  obtain ⟨e, he⟩ := sortedHeap_at (out := (arrOf st').map (·.2)) hoL
  have old : ∀ b o, s.heap.get? b = some o → (sortedHeap (h9.push (seqObj "list" acc.toList.toArray 0)) h9.objs.size acc.toList ((arrOf st').map (·.2))).get? b = some o := fun b o eb => by
    have e9 := k1 b o eb
    have hlt := Heap.lt_size e9
    rw [sortedHeap_old (Nat.ne_of_lt hlt) (by rw [Heap.size_push]; exact Nat.lt_succ_of_lt hlt)]
    exact Heap.get?_push_of_some _ e9
  obtain ⟨ls, r1, r2, r3⟩ := chars_lib q1 fun x hx => by
    have := q2.mem_iff.mp hx
    obtain ⟨v, hv, rfl⟩ := List.mem_map.mp this
    obtain ⟨x, t, rfl, hx2⟩ := hall v hv
    exact hx2
  refine wpAny_pure ⟨_, rfl, h h9.objs.size _ ((arrOf st').map (·.2)).toList ls e d9 t9 (F.kept old) (N.kept_cons F old hge he) r1 r3 ?_ ?_⟩
  · rw [r2, q2.length_eq, List.length_map, hln]; exact kn
  · exact fun p hp => Nat.lt_of_lt_of_le (Heap.lt_size (N p hp).1) hge
end
end
section
open PySem PySem.W PyProof.Rows PySem.Calls PyProof.Rows.LCg
section
variable {prog : Program} {w : World} {A : Around} {E : Value → Shared → Prop} {s : Shared} {h₀ : Heap}
noncomputable def Fin1 (h₀ : Heap) (L : Addr) (Q : Flow → Shared → Prop) (s : Shared) (It : Addr) (x : Addr × Obj) (y : Addr × Obj) (s' : Shared) : Prop :=
  ∃ h' dr' tk' m' tl', s' = { s with heap := h', drawn := dr', toks := tk' } ∧ Fr h₀ L h' m' ∧ News h₀ L h' (x :: y :: tl') ∧ (∀ p ∈ tl', p.1 ≠ It) ∧
    ∀ h'' tk'', Fr h₀ L h'' m' → News h₀ L h'' tl' → Q .next { s with heap := h'', drawn := dr', toks := tk'' }
noncomputable def End1 (h₀ : Heap) (L : Addr) (Q : Flow → Shared → Prop) (s : Shared) (It : Addr) (x y : Addr × Obj) (f : Flow) (s' : Shared) : Prop :=
  match f with | .next | .cont => Fin1 h₀ L Q s It x y s' | .brk => Q .next s' | .ret v => Q (.ret v) s'
theorem loop_none {env : Env} {target : PySem.Expr} {body : List Stmt} {Q : Flow → Shared → Prop} {l : Addr} {m : PySem.Str → Option Value} {news : List (Addr × Obj)}
    (hh : A.handled = none) (F : Fr h₀ env.locals s.heap m) (N : News h₀ env.locals s.heap news) (hl : s.heap.IsList l ([] : List Value).toArray)
    (done : ∀ h tk, Fr h₀ env.locals h m → News h₀ env.locals h news → Q .next { s with heap := h, toks := tk }) :
    wpAny (model prog w) A (pyIter (.ref l)) (fun it s₂ => LoopA prog w A env target body Q E it s₂) E s := by
  refine wpAny_pyIter_list hl ?_
  have N2 := News.push F N { cls := .type "list_iterator", data := .fields #[.ref l, .int 0 0] }
  have F2 := Fr.push F { cls := .type "list_iterator", data := .fields #[.ref l, .int 0 0] }
  have li := fun q hq => Heap.lt_size (N q hq).1
  have gl : (s.heap.push { cls := .type "list_iterator", data := .fields #[.ref l, .int 0 0] }).IsList l ([] : List Value).toArray := hl.push _
  generalize hIt : s.heap.objs.size = It at *
  have gI : (s.heap.push { cls := .type "list_iterator", data := .fields #[.ref l, .int 0 0] }).IsListIter It l 0 := ⟨_, (N2 _ (.head _)).1, rfl, rfl⟩
  generalize s.heap.push { cls := .type "list_iterator", data := .fields #[.ref l, .int 0 0] } = H at *
  refine ⟨fun n z => z = { s with heap := H }, 0, rfl, ?_⟩
  rintro n z rfl
  have zI := N2 _ (.head _)
  refine wpAny_pyNext_list_end hh gI gl (by simp) fun h4 he4 => ?_
  have hk4 : ∀ b o, b ∉ [It] → H.get? b = some o → h4.get? b = some o := fun b o hb e => he4 b o (fun q => hb (by rw [q]; exact .head _)) e
  exact done _ _ (fr_but F2 hk4 (Ne.symm zI.2.1) zI.2.2) (news_but (fun q hq => N2 q (.tail _ hq)) hk4 fun p hp => Nat.ne_of_lt (li p hp))
theorem loop_one {env : Env} {x y : PySem.Str} {px py tp : Pos} {tt : Nat} {body : List Stmt} {Q : Flow → Shared → Prop} {l T : Addr} {v0 v1 : Value} {k : Nat} {m : PySem.Str → Option Value} {tl : List (Addr × Obj)}
    (hh : A.handled = none) (F : Fr h₀ env.locals s.heap m) (N : News h₀ env.locals s.heap ((l, listOf [.ref T].toArray k) :: (T, tupObj [v0, v1]) :: tl)) (hx : env.kindOf x = some .local) (hy : env.kindOf y = some .local) (hp : (env.scope.kind == .class || (env.scope.kind == .module && env.locals != env.globals)) = false)
    (turn : ∀ It oI h tk, AboveAll It ((l, listOf [.ref T].toArray k) :: (T, tupObj [v0, v1]) :: tl) → Fr h₀ env.locals h (fun z => if z = y then some v1 else if z = x then some v0 else m z) → News h₀ env.locals h ((It, oI) :: (l, listOf [.ref T].toArray k) :: (T, tupObj [v0, v1]) :: tl) →
      wpAny (model prog w) A (execs body env) (End1 h₀ env.locals Q s It (It, oI) (l, listOf [.ref T].toArray k)) E { s with heap := h, toks := tk }) :
    wpAny (model prog w) A (pyIter (.ref l)) (fun it s₂ => LoopA prog w A env (.Tuple [.Name x px, .Name y py] tt tp) body Q E it s₂) E s := by
  have hl : s.heap.IsList l [Value.ref T].toArray := ⟨_, (N _ (.head _)).1, rfl, _, rfl⟩
  refine wpAny_pyIter_list hl ?_
  have N2 := News.push F N { cls := .type "list_iterator", data := .fields #[.ref l, .int 0 0] }
  have F2 := Fr.push F { cls := .type "list_iterator", data := .fields #[.ref l, .int 0 0] }
  have li := fun q hq => Heap.lt_size (N q hq).1
  generalize hIt : s.heap.objs.size = It at *
  have gI : (s.heap.push { cls := .type "list_iterator", data := .fields #[.ref l, .int 0 0] }).IsListIter It l 0 := ⟨_, (N2 _ (.head _)).1, rfl, rfl⟩
  generalize s.heap.push { cls := .type "list_iterator", data := .fields #[.ref l, .int 0 0] } = H at *
  refine ⟨fun n z => (n = 1 ∧ z = { s with heap := H }) ∨ (n = 0 ∧ ∃ oI, oI.cls = .type "list_iterator" ∧ oI.data = .fields #[.ref l, .int ((1 : Nat) : Int) 0] ∧ Fin1 h₀ env.locals Q s It (It, oI) (l, listOf [.ref T].toArray k) z), 1, .inl ⟨rfl, rfl⟩, ?_⟩
  have zI := N2 _ (.head _)
  rintro n z (⟨rfl, rfl⟩ | ⟨rfl, oI, c1, c2, h3, dr3, tk3, m3, tl3, rfl, F3, N3, o3, fin⟩)
  · have gl2 : H.IsList l [Value.ref T].toArray := ⟨_, (N2 _ (.tail _ (.head _))).1, rfl, _, rfl⟩
    refine wpAny_pyNext_list_item gI gl2 (x := .ref T) (by simp) fun h4 gI4 hs4 => ?_
    have F4 := F2.change hs4 zI.2.1 zI.2.2
    obtain ⟨oI, j1, j2, j3⟩ := id gI4
    have N4 : News h₀ env.locals h4 ((It, oI) :: (l, listOf [.ref T].toArray k) :: (T, tupObj [v0, v1]) :: tl) := by
      intro q hq
      rcases List.mem_cons.mp hq with rfl | hq
      · exact ⟨j1, zI.2⟩
      · have z := N2 q (.tail _ hq)
        exact ⟨hs4.extBut _ _ (Nat.ne_of_lt (li q hq)) z.1, z.2⟩
    show wpAny _ _ (letOwnedTupleGo _ _ _) _ _ _
    refine wpAny_letOwnedTupleGo_listiter gI4 ?_
    have ht : h4.IsTuple T #[v0, v1] := ⟨_, (N4 _ (.tail _ (.tail _ (.head _)))).1, rfl, _, rfl⟩
    refine wpAny_assign_Tuple hh ht rfl rfl fun h₃ hx₃ => ?_
    replace hx₃ : Heap.ExtBut h4.objs.size h4 h₃ := hx₃
    have up₃ : ∀ b o, h4.get? b = some o → h₃.get? b = some o := fun b o x => hx₃ b o (Nat.ne_of_lt (Heap.lt_size x)) x
    have F₃ := F4.keeps up₃
    have N₃ := N4.grown up₃
    show wpAny _ A (do holding [v1] (assign (.Name x px) env v0); do holding [] (assign (.Name y py) env v1); pure ()) _ _ _
    refine wpAny_bind (wpAny_holding (wpAny_assign_Name (wpAny_storeName_local hx F₃.ns (fun h₄ hn₄ hs₄ => ?_) hp)))
    replace hs₄ : Heap.SameBut env.locals h₃ h₄ := hs₄
    have F₄ := F₃.set hn₄ hs₄
    refine wpAny_bind (wpAny_holding (wpAny_assign_Name (wpAny_storeName_local hy F₄.ns (fun h₅ hn₅ hs₅ => wpAny_pure ?_) hp)))
    replace hs₅ : Heap.SameBut env.locals h₄ h₅ := hs₅
    have F₅ := F₄.set hn₅ hs₅
    have N₅ := (N₃.set hs₄).set hs₅
    refine wpAny_mono (turn It oI h₅ _ li F₅ N₅) (fun f s₃ h₆ => ?_) fun _ _ e => e
    cases f with
    | ret v => exact h₆
    | brk => exact h₆
    | next => exact ⟨0, Nat.lt_succ_self _, .inr ⟨rfl, oI, j2, j3, h₆⟩⟩
    | cont => exact ⟨0, Nat.lt_succ_self _, .inr ⟨rfl, oI, j2, j3, h₆⟩⟩
  · have gI3 : h3.IsListIter It l 1 := ⟨oI, (N3 _ (.head _)).1, c1, c2⟩
    have gl3 : h3.IsList l [Value.ref T].toArray := ⟨_, (N3 _ (.tail _ (.head _))).1, rfl, _, rfl⟩
    refine wpAny_pyNext_list_end hh gI3 gl3 (by simp) fun h4 he4 => ?_
    have hk4 : ∀ b o, b ∉ [It] → h3.get? b = some o → h4.get? b = some o := fun b o hb e => he4 b o (fun q => hb (by rw [q]; exact .head _)) e
    exact fin _ _ (fr_but F3 hk4 (Ne.symm zI.2.1) zI.2.2) (news_but (fun q hq => N3 q (.tail _ (.tail _ hq))) hk4 fun p hp => o3 p hp)
end
end
section
open PySem PySem.W PyProof.Rows PySem.Calls PyProof.Rows.LCg
section
variable {prog : Program} {w : World} {A : Around} {E : Value → Shared → Prop} {s : Shared} {h₀ : Heap} {L : Addr} {news : List (Addr × Obj)} {Q : Value → Shared → Prop}
theorem r_neSaid {a b : Addr} {x1 x2 bb : Bool} {t1 t2 u1 u2 : Tok} (N : News h₀ L s.heap news) (ha : (a, tupObj [.str (S (sayL x1)) t1, .str (S (sayL x2)) t2]) ∈ news) (hb : (b, tupObj [.str (S (sayL bb)) u1, .str (S (sayL (!bb))) u2]) ∈ news) (h1 : x1 = bb) (h2 : x2 = !bb) (hu : A.units + 64 < cLine)
    (h : Q (.bool false) s) : wpAny (model prog w) A (compareOp .NotEq (.ref a) (.ref b)) Q E s := by
  refine r_neT (N _ ha).1 (N _ hb).1 hu ?_
  rw [decide_eq_true ⟨h1, h2⟩]; exact h
end
noncomputable def ownN (wr : List Nat → List Nat) (la lb c : Nat) : List Nat := if c = la then ownL (wr [la]) (wr [lb]) else ownL (wr [lb]) (wr [la])
theorem ownL_len (a b : List Nat) : (ownL a b).length ≤ 1 := by unfold ownL; rw [List.length_take]; omega
theorem ownN_len (wr : List Nat → List Nat) (la lb c : Nat) : (ownN wr la lb c).length ≤ 1 := by unfold ownN; split <;> exact ownL_len _ _
theorem lit_bs : PySem.Str.ofString "\\" = S [92] := by rfl
theorem allLt_mem {d : Addr} : ∀ {l : List (Addr × Obj)}, AllLt d l → ∀ p ∈ l, @LT.lt Nat _ p.1 d
  | [], _, p, hp => absurd hp List.not_mem_nil
  | _ :: _, h, p, hp => by
    rcases List.mem_cons.mp hp with rfl | hp
    · exact h.1
    · exact allLt_mem h.2 p hp
theorem three_name {g h : Heap} {L a : Addr} {v1 v2 : Value} {x : PySem.Str} {t : Tok} {k : Nat} {l : List (Addr × Obj)} (_N : News g L h ((a, listOf #[v1, v2, .str x t] k) :: l)) : ∃ (a' : Addr) (t' : Tok), a' = a ∧ t' = t := ⟨_, _, rfl, rfl⟩
theorem news_soon4 {g h : Heap} {L : Addr} {X tl R7 tls : List (Addr × Obj)} {d z b1 b2 b3 : Addr × Obj} (N : News g L h ((X ++ tl) ++ (d :: ((b1 :: b2 :: b3 :: R7) ++ z :: tls)))) : News g L h (d :: z :: (X ++ (b1 :: b2 :: b3 :: (R7 ++ (tls ++ tl))))) := news_sub N fun q hq => by
  rcases List.mem_cons.mp hq with rfl | hq
  · exact List.mem_append_right _ (.head _)
  rcases List.mem_cons.mp hq with rfl | hq
  · exact List.mem_append_right _ (.tail _ (List.mem_append_right _ (.head _)))
  rcases List.mem_append.mp hq with hq | hq
  · exact List.mem_append_left _ (List.mem_append_left _ hq)
  rcases List.mem_cons.mp hq with rfl | hq
  · exact List.mem_append_right _ (.tail _ (.head _))
  rcases List.mem_cons.mp hq with rfl | hq
  · exact List.mem_append_right _ (.tail _ (.tail _ (.head _)))
  rcases List.mem_cons.mp hq with rfl | hq
  · exact List.mem_append_right _ (.tail _ (.tail _ (.tail _ (.head _))))
  rcases List.mem_append.mp hq with hq | hq
  · exact List.mem_append_right _ (.tail _ (.tail _ (.tail _ (.tail _ (List.mem_append_left _ hq)))))
  rcases List.mem_append.mp hq with hq | hq
  · exact List.mem_append_right _ (.tail _ (List.mem_append_right _ (.tail _ hq)))
  · exact List.mem_append_left _ (List.mem_append_right _ hq)
end
section
open PySem PySem.W PyProof.Rows PySem.Calls PyProof.Rows.LCg
structure LoopOk (wr : List Nat → List Nat) (la lb : Nat) (x0 x1 wd : List Nat) (b : Bool) : Prop where
  ne : wd ≠ []
  len : wd.length ≤ 4
  free : 46 ∉ wd
  s1 : ∀ ls, (soonL ls (hidL x0) (hidL x1) (wd.length - 1)).take 1 = []
  y0 : subB wd (hidL x0) = b
  y1 : subB wd (hidL x1) = !b
  s4 : ∀ ls, (soonL ls (wr x0) (wr x1) (wd.length - 1)).take 1 = []
  nne : wd.flatMap (ownN wr la lb) ≠ []
  nlen : (wd.flatMap (ownN wr la lb)).length ≤ 9
  nfree : 46 ∉ wd.flatMap (ownN wr la lb)
  z0 : subB (wd.flatMap (ownN wr la lb)) (wr x0) = b
  z1 : subB (wd.flatMap (ownN wr la lb)) (wr x1) = !b
structure SignsOk (wr : List Nat → List Nat) (la lb : Nat) : Prop where
  two : ∃ c d, c ∈ wr [la] ++ wr [lb] ∧ d ∈ wr [la] ++ wr [lb] ∧ c ≠ d
  lt : ∀ c ∈ wr [la] ++ wr [lb], c < 128
  free : 46 ∉ wr [la] ++ wr [lb]
  len : (wr [la] ++ wr [lb]).length ≤ 12
theorem m_other {m n : PySem.Str → Option Value} {k j : PySem.Str} {x v : Option Value} (e : n = fun y => if y = k then x else m y) (hk : j ≠ k) (h : m j = v) : n j = v := by subst e; exact (if_neg hk).trans h
theorem m_this {m n : PySem.Str → Option Value} {k : PySem.Str} {x : Option Value} (e : n = fun y => if y = k then x else m y) : n k = x := by subst e; exact if_pos rfl
theorem in_rd {b1 b2 b3 : Addr × Obj} {R7 K : List (Addr × Obj)} {q : Addr × Obj} (h : q ∈ b1 :: b2 :: b3 :: (R7 ++ K)) : q ∈ (b1 :: b2 :: b3 :: R7) ++ K := h
theorem rd_in {b1 b2 b3 : Addr × Obj} {R7 K : List (Addr × Obj)} {q : Addr × Obj} (h : q ∈ (b1 :: b2 :: b3 :: R7) ++ K) : q ∈ b1 :: b2 :: b3 :: (R7 ++ K) := h
theorem mem_k {R K : List (Addr × Obj)} {x q : Addr × Obj} (h : q ∈ R ++ K) : q ∈ R ++ x :: K := by
  rcases List.mem_append.mp h with h | h
  · exact List.mem_append_left _ h
  · exact List.mem_append_right _ (.tail _ h)
theorem r8_46 {c : Nat} (h : R8 c) : c ≠ 46 := by
  unfold R8 at h
  rcases h with rfl | rfl | rfl | rfl | rfl | rfl | rfl | rfl <;> decide
theorem lohi_P {P : Nat → Prop} {a b : Nat} (ha : P a) (hb : P b) : ∀ c ∈ [lo2 a b, hi2 a b], P c := by
  intro c hc
  unfold lo2 hi2 at hc
  rcases List.mem_cons.mp hc with rfl | hc
  · split <;> assumption
  · rw [List.mem_singleton.mp hc]; split <;> assumption
theorem three_P {P : Nat → Prop} {a b c : Nat} (ha : P a) (hb : P b) (hc : P c) : ∀ d ∈ [a, b, c], P d := by
  intro d hd
  rcases List.mem_cons.mp hd with rfl | hd
  · exact ha
  rcases List.mem_cons.mp hd with rfl | hd
  · exact hb
  · rw [List.mem_singleton.mp hd]; exact hc
theorem news_k {g h : Heap} {L : Addr} {R K : List (Addr × Obj)} {x : Addr × Obj} (N : News g L h (x :: (R ++ K))) : News g L h (R ++ x :: K) := news_sub N fun q hq => by
  rcases List.mem_append.mp hq with hq | hq
  · exact .tail _ (List.mem_append_left _ hq)
  rcases List.mem_cons.mp hq with rfl | hq
  · exact .head _
  · exact .tail _ (List.mem_append_right _ hq)
theorem news_p {g h : Heap} {L : Addr} {l : List (Addr × Obj)} {x : Addr × Obj} (hx : x ∈ l) (N : News g L h l) : News g L h (x :: l) := news_sub N fun q hq => by
  rcases List.mem_cons.mp hq with rfl | hq
  · exact hx
  · exact hq
theorem found_one {us : List Value} {utl : List (Addr × Obj)} {wd : List Nat} {b : Bool} (h : FoundAre us utl [(wd, b)]) : ∃ T U t t1 t2 tl, us = [.ref T] ∧ utl = (T, tupObj [.str (S wd) t, .ref U]) :: (U, tupObj [.str (S (sayL b)) t1, .str (S (sayL (!b))) t2]) :: tl := by
  generalize hl : [(wd, b)] = l at h
  cases h with
  | nil => cases hl
  | @snoc vs tl l T U x b' t t1 t2 h =>
    have e : l = [] ∧ (x, b') = (wd, b) := by
      rcases l with _ | ⟨p, r⟩
      · exact ⟨rfl, (List.singleton_inj.mp hl).symm⟩
      · have := congrArg List.length hl; simp at this
    obtain ⟨rfl, e⟩ := e
    cases e
    generalize hm : ([] : FD) = l at h
    cases h with
    | nil => exact ⟨T, U, t, t1, t2, [], rfl, rfl⟩
    | snoc => have := congrArg List.length hm; simp at this
theorem found_nil {us : List Value} {utl : List (Addr × Obj)} (h : FoundAre us utl []) : us = [] := h.empty.mpr rfl
end
section
open PySem PySem.W PyProof.Rows PySem.Calls
example : True := by
  k_with_none
  w_top off
  trivial
local macro_rules | `(tactic| walk_at "call builtin:len") => `(tactic| k_extra "call builtin:len")
local macro_rules | `(tactic| walk_at "call builtin:str.startswith") => `(tactic| k_extra "call builtin:str.startswith")
local macro_rules | `(tactic| walk_at "call builtin:str.endswith") => `(tactic| k_extra "call builtin:str.endswith")
local macro_rules | `(tactic| walk_at "truthy str") => `(tactic| k_extra "truthy str")
local macro_rules | `(tactic| walk_at "exec For Name Name cons nil") => `(tactic| k_extra "exec For Name Name cons nil")
local macro_rules | `(tactic| walk_at "pyIter ref") => `(tactic| k_extra "pyIter ref")
local macro_rules | `(tactic| walk_at "eval Name") => `(tactic| k_extra "eval Name")
local macro_rules | `(tactic| walk_at "binaryOp Add str str") => `(tactic| k_extra "binaryOp Add str str")
local macro_rules | `(tactic| walk_at "subscriptTail Name Slice str ref") => `(tactic| k_extra "subscriptTail Name Slice str ref")
local macro_rules | `(tactic| walk_at "exec For Name Call cons nil") => `(tactic| k_extra "exec For Name Call cons nil")
local macro_rules | `(tactic| walk_at "call ref") => `(tactic| k_extra "call ref")
local macro_rules | `(tactic| walk_at "call builtin:list.append") => `(tactic| k_extra "call builtin:list.append")
local macro_rules | `(tactic| k_room) => `(tactic| k_extra "m_k_room")
local macro_rules | `(tactic| k_units) => `(tactic| k_extra "m_k_units")
local macro_rules | `(tactic| walk_at "callWith") => `(tactic| k_extra "callWith")
local macro_rules | `(tactic| walk_at "binaryOp FloorDiv int int") => `(tactic| k_extra "binaryOp FloorDiv int int")
local macro_rules | `(tactic| walk_at "binaryOp Mod int int") => `(tactic| k_extra "binaryOp Mod int int")
local macro_rules | `(tactic| walk_at "subscriptTail Name BinOp str int") => `(tactic| k_extra "subscriptTail Name BinOp str int")
local macro_rules | `(tactic| walk_at "subscriptTail Name Constant str int") => `(tactic| k_extra "subscriptTail Name Constant str int")
local macro_rules | `(tactic| walk_at "subscriptTail Name Name str int") => `(tactic| k_extra "subscriptTail Name Name str int")
local macro_rules | `(tactic| walk_at "call builtin:str.replace") => `(tactic| k_extra "call builtin:str.replace")
local macro_rules | `(tactic| walk_at "call builtin:str.join") => `(tactic| k_extra "call builtin:str.join")
local macro_rules | `(tactic| walk_at "binaryOp Mult str int") => `(tactic| k_extra "binaryOp Mult str int")
local macro_rules | `(tactic| walk_at "compareOp NotIn str str") => `(tactic| k_extra "compareOp NotIn str str")
local macro_rules | `(tactic| walk_at "call builtin:str.split") => `(tactic| k_extra "call builtin:str.split")
local macro_rules | `(tactic| walk_at "subscriptTail Name Constant ref int") => `(tactic| k_extra "subscriptTail Name Constant ref int")
local macro_rules | `(tactic| walk_at "subscriptTail Name UnaryOp ref int") => `(tactic| k_extra "subscriptTail Name UnaryOp ref int")
local macro_rules | `(tactic| walk_at "call builtin:str.find") => `(tactic| k_extra "call builtin:str.find")
local macro_rules | `(tactic| walk_at "pyIter str") => `(tactic| k_extra "pyIter str")
local macro_rules | `(tactic| walk_at "eval ListComp") => `(tactic| k_extra "eval ListComp")
local macro_rules | `(tactic| walk_at "compareOp In str str") => `(tactic| k_extra "compareOp In str str")
local macro_rules | `(tactic| walk_at "compareOp NotEq ref ref") => `(tactic| k_extra "compareOp NotEq ref ref")
local macro_rules | `(tactic| walk_at "call builtin:list.pop") => `(tactic| k_extra "call builtin:list.pop")
local macro_rules | `(tactic| walk_at "call builtin:iter") => `(tactic| k_extra "call builtin:iter")
local macro_rules | `(tactic| walk_at "loadName") => `(tactic| k_extra "loadName")
local macro_rules | `(tactic| walk_at "inplaceOp Add str str") => `(tactic| k_extra "inplaceOp Add str str")
local macro_rules | `(tactic| walk_at "exec If") => `(tactic| k_extra "exec If")
local macro_rules | `(tactic| walk_at "exec While Compare cons nil") => `(tactic| k_extra "exec While Compare cons nil")
local macro_rules | `(tactic| walk_at "compareOp Eq ref ref") => `(tactic| k_extra "compareOp Eq ref ref")
local macro_rules | `(tactic| k_all) => `(tactic| k_extra "m_k_all")
local macro_rules | `(tactic| walk_at "subscriptTail Name Slice ref ref") => `(tactic| k_extra "subscriptTail Name Slice ref ref")
local macro_rules | `(tactic| walk_at "call type:enumerate") => `(tactic| k_extra "call type:enumerate")
local macro_rules | `(tactic| walk_at "exec Assign cons ListComp") => `(tactic| k_extra "exec Assign cons ListComp")
local macro_rules | `(tactic| walk_at "CompSrc") => `(tactic| k_extra "CompSrc")
local macro_rules | `(tactic| walk_at "CompEnd") => `(tactic| k_extra "CompEnd")
local macro_rules | `(tactic| walk_at "FinE") => `(tactic| k_extra "FinE")
local macro_rules | `(tactic| walk_at "FinA") => `(tactic| k_extra "FinA")
local macro_rules | `(tactic| k_ne) => `(tactic| k_extra "m_k_ne")
local macro_rules | `(tactic| walk_at "CompSrcT") => `(tactic| k_extra "CompSrcT")
local macro_rules | `(tactic| walk_at "binaryOp Add ref ref") => `(tactic| k_extra "binaryOp Add ref ref")
local macro_rules | `(tactic| walk_at "call type:set cons nil") => `(tactic| k_extra "call type:set cons nil")
local macro_rules | `(tactic| walk_at "call builtin:min") => `(tactic| k_extra "call builtin:min")
local macro_rules | `(tactic| walk_at "compareOp In str ref") => `(tactic| k_extra "compareOp In str ref")
local macro_rules | `(tactic| walk_at "compareOp NotIn str ref") => `(tactic| k_extra "compareOp NotIn str ref")
local macro_rules | `(tactic| walk_at "callWith ref") => `(tactic| k_extra "callWith ref")
local macro_rules | `(tactic| walk_at "execs cons") => `(tactic| k_extra "execs cons")
local macro_rules | `(tactic| walk_at "call builtin:sum") => `(tactic| k_extra "call builtin:sum")
local macro_rules | `(tactic| walk_at "exec Assign cons Subscript") => `(tactic| k_extra "exec Assign cons Subscript")
local macro_rules | `(tactic| walk_at "compareOp NotEq str str") => `(tactic| k_extra "compareOp NotEq str str")
local macro_rules | `(tactic| walk_at "compareOp NotEq int int") => `(tactic| k_extra "compareOp NotEq int int")
local macro_rules | `(tactic| walk_at "call builtin:str.count") => `(tactic| k_extra "call builtin:str.count")
local macro_rules | `(tactic| walk_at "call builtin:sorted") => `(tactic| k_extra "call builtin:sorted")
local macro_rules | `(tactic| walk_at "compareOp Eq str str") => `(tactic| k_extra "compareOp Eq str str")
local macro_rules | `(tactic| walk_at "exec For Tuple Name cons nil") => `(tactic| k_extra "exec For Tuple Name cons nil")
section
local macro_rules | `(tactic| walk_at "zz0") => `(tactic| fail)
local macro_rules | `(tactic| walk_at "zz1") => `(tactic| fail)
local macro_rules | `(tactic| walk_at "zz2") => `(tactic| fail)
example : True := by
  k_with_none
  w_top off
  k_with "olt" => (first | assumption | ((fail_if_success refine oM ?_); refine oL ?_; k_extra "ole") | k_extra "olh")
  k_with "olh" => (refine oH (by assumption) (by k_extra "ole"))
  k_with "ole" => (first | exact Nat.le_refl _ | assumption | exact oB | ((first | refine oA ?_ | refine oA2 ?_ | refine oA3 ?_); k_extra "ocl") | (refine oS ?_; k_extra "ole") | (refine Nat.le_of_lt ?_; (first | assumption | k_extra "olh")) | exact oE)
  k_with "olt2" => (first | k_extra "oas" | ((fail_if_success refine oM ?_); refine oL ?_; k_extra "ole2") | k_extra "olh2")
  k_with "olh2" => (refine oH (by k_extra "oas") (by k_extra "ole2"))
  k_with "ole2" => (first | exact Nat.le_refl _ | k_extra "oas" | exact oB | ((first | refine oA ?_ | refine oA2 ?_ | refine oA3 ?_); k_extra "ocl") | (refine oS ?_; k_extra "ole2") | (refine Nat.le_of_lt ?_; (first | k_extra "oas" | k_extra "olh2")) | exact oE)
  k_with "opu" => (first | exact oB | exact Nat.le_refl _ | (refine oS ?_; k_extra "opu"))
  k_with "olt0" => (refine oL ?_; k_extra "opu")
  k_with "one" => (first | (refine Nat.ne_of_gt ?_; (fail_if_success refine oM ?_); k_extra "olt0") | (refine Nat.ne_of_lt ?_; (fail_if_success refine oM ?_); k_extra "olt0") | exact Ne.symm (by assumption) | (refine Nat.ne_of_gt ?_; (fail_if_success refine oM ?_); k_extra "oas") | (refine Nat.ne_of_lt ?_; (fail_if_success refine oM ?_); k_extra "oas") | (refine Nat.ne_of_gt ?_; (fail_if_success refine oM ?_); k_extra "odd") | (refine Nat.ne_of_lt ?_; (fail_if_success refine oM ?_); k_extra "odd") | (refine Nat.ne_of_gt ?_; (fail_if_success refine oM ?_); k_extra "olt") | (refine Nat.ne_of_lt ?_; (fail_if_success refine oM ?_); k_extra "olt") | (refine Nat.ne_of_gt ?_; (fail_if_success refine oM ?_); k_extra "olt2") | (refine Nat.ne_of_lt ?_; (fail_if_success refine oM ?_); k_extra "olt2") | decide)
  k_with "ol1" => (first | ((fail_if_success refine oM ?_); first | k_extra "oas" | k_extra "olt0" | k_extra "odd" | k_extra "olt" | k_extra "olt2") | k_extra "ocl" | exact oT0 | exact oT5)
  k_with "oe1" => (first | ((fail_if_success refine oN ?_); first | k_extra "oas" | k_extra "opu" | k_extra "ole" | k_extra "ole2" | exact oE (by k_extra "oas")) | k_extra "ocl" | k_extra "olit" | k_extra "oas")
  k_with "olit" => (first | exact oT4 | exact oP | exact oP2 | exact oT1 | exact oT2 | exact oT3 | exact oQ5 | exact oQ1 | exact oQ2 | exact oQ3 | exact oQ4 | exact oQ6 | exact oD)
  k_with "ocl" => (with_unfolding_all exact Nat.le_of_ble_eq_true rfl)
  k_with "oas" => (first | assumption | exact oa1 | exact ob1 | exact oa2 | exact ob2 | exact oa3 | exact ob3 | exact oa4 | exact ob4 | exact oa5 | exact ob5 | exact oa6 | exact ob6 | exact oa7 | exact ob7)
  k_with "odd" => (first | exact oa1 ob7 | exact oa2 ob7 | exact oa3 ob7 | exact oa4 ob7 | exact oa5 ob7 | exact oa6 ob7 | exact oa7 ob7 | exact oa1 (ob7 ob7) | exact oa2 (ob7 ob7) | exact oa3 (ob7 ob7) | exact oa4 (ob7 ob7) | exact oa5 (ob7 ob7) | exact oa6 (ob7 ob7) | exact oa7 (ob7 ob7) | exact ob1 ob7 | exact ob2 ob7 | exact ob3 ob7 | exact ob4 ob7 | exact ob5 ob7 | exact ob6 ob7 | exact ob7 ob7)
  k_with "oin" => (first | decide | exact oI1 | exact oI3 | exact oI2 (by k_extra "oas"))
  k_with "om" => (with_reducible first | (first | assumption | ((fail_if_success fail_if_success refine oXn ?_); k_extra "one") | ((fail_if_success fail_if_success refine oXl ?_); k_extra "ol1") | ((fail_if_success fail_if_success refine oXe ?_); k_extra "oe1") | k_extra "oin") | fail)
  k_with "S_fit" => (first | omega | ((simp only [S_len, List.length_append, List.length_cons, List.length_nil, List.length_take, List.length_drop, dots, PySem.sizeLine_eq]); omega))
  k_with "call builtin:len" => (((with_reducible show wpAny _ _ (call (Value.builtin "len") [Value.str (S _) _]) _ _ _); refine r_len (by walk_at "S_fit") ?_))
  k_with "call builtin:str.startswith" => (((with_reducible show wpAny _ _ (call (Value.builtin "str.startswith") [Value.str (S _) _, Value.str (S _) _]) _ _ _); refine r_starts ?_))
  k_with "call builtin:str.endswith" => (((with_reducible show wpAny _ _ (call (Value.builtin "str.endswith") [Value.str (S _) _, Value.str (S _) _]) _ _ _); refine r_ends ?_))
  k_with "truthy str" => (((with_reducible show wpAny _ _ (truthy (Value.str (S _) _)) _ _ _); refine r_truthy (by walk_at "S_fit") ?_))
  k_with "exec For Name Name cons nil" => ((k_here; (rename Fr _ _ _ _ => Z6Xa); (with_unfolding_all refine' For_invVF Z6Xa ?Q6Xa ?Q6Xb ?_; (case Q6Xa => exact rfl); (case Q6Xb => exact rfl); k_whole)))
  k_with "pyIter ref" => (((with_reducible show wpAny _ _ (pyIter (Value.ref _)) (fun it s₂ => LoopAtV _ _ _ _ _ _ _ _ _ it s₂) _ _); k_listUnr))
  k_with "S_enter" => ((refine' code_defG (news := []) ?Q8Xa ?Q8Xb ?Q8Xc ?Q8Xd ?Q8Xe ?Q8Xf ?Q8Xg ?Q8Xh ?Q8Xi ?Q8Xj ?Q8Xk ?Q8Xl ?Q8Xm ?_ ?Q8Xn ?Q8Xo ?Q8Xp ?Q8Xq; (case Q8Xf => exact rfl); (case Q8Xg => exact rfl); (case Q8Xh => assumption); (case Q8Xa => k_asm); (case Q8Xb => k_asm); (case Q8Xc => k_asm); (case Q8Xd => exact News.nil); (case Q8Xe => k_asm); (case Q8Xi => k_is); (case Q8Xj => k_is); (case Q8Xk => ktr_room); (case Q8Xl => exact BindsTo.of_eq rfl); (case Q8Xq => decide); (case Q8Xm => exact locs rfl); (case Q8Xn => exact rfl); (case Q8Xo => exact rfl); (case Q8Xp => exact rfl); k_whole; intro Z8Xh Z8Xd Z8Xi Z8Xc Z8Xb Z8Xe Z8Xa Z8Xg Z8Xf Z8Xj; (try dsimp only [List.map_nil] at Z8Xj); (try dsimp only); (try k_lift Z8Xa); (try k_fold)))
  k_with "S_look" => (first | exact rfl | assumption | exact (if_pos rfl) | (refine (if_neg (by decide)).trans ?_; walk_at "S_look"))
  k_with "eval Name" => ((k_here; k_dflt (refine' nameX_L ?QaXa ?QaXb ?_ ?QaXc ?QaXd; (case QaXa => k_asm); (case QaXc => rfl); (case QaXd => rfl); (case QaXb => walk_at "S_look"); k_whole)))
  k_with "S_lit" => (first | (with_reducible exact lit_dots) | (with_reducible rfl))
  k_with "S_nn" => (first | omega | ((simp only [List.length_append, List.length_cons, List.length_nil, List.length_take, List.length_drop, dots] at *); omega))
  k_with "binaryOp Add str str" => (((with_reducible show wpAny _ _ (binaryOp _ (Value.str _ _) (Value.str _ _)) _ _ _); k_dflt (refine r_add (by walk_at "S_lit") (by walk_at "S_lit") (by walk_at "S_fit") ?_); intro _ _))
  k_with "subscriptTail Name Slice str ref" => (((with_reducible show wpAny _ _ (subscriptTail _ (Expr.Slice none (some _) none _) (Value.str (S _) _) _) _ _ _); (with_reducible rename Fr _ _ _ _ => ZeXa); (with_reducible rename News _ _ _ _ => ZeXb); (refine r_sliceTo (s := ⟨_, _, _, _, _⟩) ZeXa ZeXb (by walk_at "S_nn") (by walk_at "S_fit") ?_); intro _ _ _ _ _))
  k_with "subscriptTail Name Slice str ref" => (((with_reducible show wpAny _ _ (subscriptTail _ (Expr.Slice (some _) none none _) (Value.str (S _) _) _) _ _ _); (with_reducible rename Fr _ _ _ _ => ZfXa); (with_reducible rename News _ _ _ _ => ZfXb); (refine r_sliceFrom (s := ⟨_, _, _, _, _⟩) ZfXa ZfXb (by walk_at "S_nn") (by walk_at "S_fit") ?_); intro _ _ _ _ _))
  k_with "exec For Name Call cons nil" => ((k_here; (rename Fr _ _ _ _ => ZgXa); (with_unfolding_all refine' For_invVF ZgXa ?QgXa ?QgXb ?_; (case QgXa => exact rfl); (case QgXb => exact rfl); k_whole)))
  k_with "S_use" => ((refine' pcon_use ?QhXa ?QhXb ?QhXc ?QhXd ?QhXe ?QhXf ?QhXg ?QhXh ?_; (case QhXb => k_asm); (case QhXc => k_asm); (case QhXd => k_asm); (case QhXe => k_asm); (case QhXa => walk_at "S_con"); (case QhXf => first | exact rfl | assumption); (case QhXg => ktr_room); (case QhXh => ktr_units)))
  k_with "call ref" => ((k_here; k_dflt (walk_at "S_use"); intro ZiXf ZiXd ZiXe ZiXb; (have ZiXa := Fr.keeps (by k_asm) ZiXb); (have ZiXc := News.grown (by k_asm) ZiXb); walk_at "S_back" <;> ((try dsimp only); (try k_fold))))
  k_with "pyIter ref" => (k_extra "S_loop")
  k_with "S_bool" => ((intro ZkXa; (rcases bool_or ZkXa with ⟨R8, R7⟩ | ⟨R8, R7⟩) <;> subst R7))
  k_with "call builtin:list.append" => ((k_here; (with_reducible show wpAny _ _ (call (Value.builtin _) [Value.ref _, _]) _ _ _); k_dflt (refine' append_K ?QlXa ?QlXb ?QlXc ?_ ?QlXd; (case QlXa => k_asm); (case QlXb => k_asm); (case QlXc => k_upd); (case QlXd => exact size_ok (k := 100000) (by omega) (by decide)); k_whole); intro ZlXc ZlXa ZlXb; (try k_sweep)))
  k_with "m_k_room" => (ktr_room)
  k_with "m_k_units" => (ktr_units)
  k_with "S_enterM" => ((refine' code_defG ?QoXa ?QoXb ?QoXc ?QoXd ?QoXe ?QoXf ?QoXg ?QoXh ?QoXi ?QoXj ?QoXk ?QoXl ?QoXm ?_ ?QoXn ?QoXo ?QoXp ?QoXq; (case QoXf => exact rfl); (case QoXg => exact rfl); (case QoXh => assumption); (case QoXa => k_asm); (case QoXb => k_asm); (case QoXc => k_asm); (case QoXd => k_asm); (case QoXe => k_asm); (case QoXi => k_is); (case QoXj => k_is); (case QoXk => ktr_room); (case QoXl => exact BindsTo.of_eq rfl); (case QoXq => decide); (case QoXm => exact locs rfl); (case QoXn => exact rfl); (case QoXo => exact rfl); (case QoXp => exact rfl); k_whole; intro ZoXh ZoXd ZoXi ZoXc ZoXb ZoXe ZoXa ZoXg ZoXf ZoXj; (try dsimp only [List.map_nil, List.map_cons] at ZoXj); (try dsimp only); (try k_lift ZoXa); (try k_fold)))
  k_with "callWith" => (((with_reducible show wpAny _ _ (callWith _ (Prod.fst _) (Prod.snd _) _ _) _ _ _); dsimp only))
  k_with "S_int" => (first | omega | decide | ((simp only [List.length_cons, List.length_nil, decide_eq_true_eq, decide_eq_false_iff_not, beq_iff_eq, beq_eq_false_iff_ne, ne_eq, Int.not_lt, Int.not_le] at *); omega))
  k_with "binaryOp FloorDiv int int" => (((with_reducible show wpAny _ _ (binaryOp _ (Value.int _ _) (Value.int _ _)) _ _ _); k_dflt (refine r_fdiv (by walk_at "S_int") (by walk_at "S_int") ?_); intro _ _))
  k_with "binaryOp Mod int int" => (((with_reducible show wpAny _ _ (binaryOp _ (Value.int _ _) (Value.int _ _)) _ _ _); k_dflt (refine r_fmod (by walk_at "S_int") ?_); intro _ _))
  k_with "S_item" => (((with_reducible show wpAny _ _ (subscriptTail _ _ (Value.str (S _) _) (Value.int _ _)) _ _ _); k_dflt (refine r_item (by walk_at "S_int") (by walk_at "S_int") (by walk_at "S_fit") ?_); intro _ _))
  k_with "subscriptTail Name BinOp str int" => (walk_at "S_item")
  k_with "subscriptTail Name Constant str int" => (walk_at "S_item")
  k_with "subscriptTail Name Name str int" => (walk_at "S_item")
  k_with "S_lit" => (first | (with_reducible exact lit_dots) | (with_reducible exact lit_empty) | (with_reducible exact lit34) | (with_reducible exact lit9234) | (with_reducible exact lit92) | (with_reducible exact lit10) | (with_reducible exact lit38) | (with_reducible exact lit59) | (with_reducible rfl))
  k_with "call builtin:str.replace" => (((with_reducible show wpAny _ _ (call (Value.builtin _) [Value.str (S _) _, Value.str _ _, Value.str _ _]) _ _ _); k_dflt (refine r_replace (by walk_at "S_lit") (by walk_at "S_lit") (by decide) (Nat.succ_ne_zero _) (Nat.succ_ne_zero _) (Nat.ne_of_lt (Nat.lt_succ_self _)) (by decide) (by walk_at "S_nn") ?_); intro _ _))
  k_with "call builtin:str.join" => ((k_here; (with_reducible show wpAny _ _ (call (Value.builtin _) [Value.str _ _, Value.ref _]) _ _ _); k_dflt (refine r_join (by walk_at "S_lit") (by walk_at "S_isl") (by walk_at "S_strs") (by walk_at "S_sum") ?_); intro _ _))
  k_with "S_isl" => (first | assumption | exact ⟨LCg.lst _, News.get (by k_asm) (by k_mem), rfl, _, rfl⟩ | is_list)
  k_with "S_strs" => (first | exact StrsAre.nil | assumption | (exact CharsAre.strs (by assumption)))
  k_with "binaryOp Mult str int" => (((with_reducible show wpAny _ _ (binaryOp _ (Value.str (S _) _) (Value.int _ _)) _ _ _); k_dflt (refine r_mul (by walk_at "S_int") (by walk_at "S_int") (by walk_at "S_nn") ?_); intro _ _))
  k_with "S_enterC" => ((refine' code_defCG ?Q13Xa ?Q13Xb ?Q13Xc ?Q13Xd ?Q13Xe ?Q13Xf ?Q13Xg ?Q13Xh ?Q13Xi ?Q13Xj ?Q13Xk ?Q13Xl ?Q13Xm ?Q13Xn ?_ ?Q13Xo ?Q13Xp ?Q13Xq; (case Q13Xf => exact rfl); (case Q13Xg => exact rfl); (case Q13Xh => assumption); (case Q13Xa => k_asm); (case Q13Xb => k_asm); (case Q13Xc => k_asm); (case Q13Xd => k_asm); (case Q13Xe => k_asm); (case Q13Xi => k_is); (case Q13Xj => k_is); (case Q13Xk => ktr_room); (case Q13Xl => exact BindsTo.of_eq rfl); (case Q13Xm => rfl); (case Q13Xn => decide); (case Q13Xo => exact rfl); (case Q13Xp => exact rfl); (case Q13Xq => exact rfl); k_whole; intro Z13Xj Z13Xd Z13Xk Z13Xo Z13Xi Z13Xc Z13Xb Z13Xe Z13Xh Z13Xa Z13Xg Z13Xf Z13Xm Z13Xl Z13Xn; (try dsimp only [List.map_nil, List.map_cons] at Z13Xl); (try k_lt Z13Xm); k_cells Z13Xh; (try simp only [List.cons_append, List.nil_append] at Z13Xe); (try dsimp only); (try k_lift Z13Xa); (try k_fold)))
  k_with "S_lcs" => ((k_here; k_dflt (refine ListComp_S (_F₀ := by k_asm) (by rfl) (by decide) (by rfl) (by decide) (by rfl) ?_)))
  k_with "S_lit" => (first | (with_reducible exact lit_dots) | (with_reducible exact lit_empty) | (with_reducible exact lit34) | (with_reducible exact lit9234) | (with_reducible exact lit92) | (with_reducible exact lit10) | (with_reducible exact lit38) | (with_reducible exact lit59) | (with_reducible exact lit60) | (with_reducible exact lit62) | (with_reducible exact lit13) | (with_reducible exact lit9) | (with_reducible exact litamp) | (with_reducible exact litlt) | (with_reducible exact litgt) | (with_reducible exact litquot) | (with_reducible rfl))
  k_with "S_sum" => (assumption)
  k_with "compareOp NotIn str str" => ((k_here; k_dflt (refine r_notinW (by decide +kernel) ?_)))
  k_with "call builtin:str.split" => (((with_reducible rename Fr _ _ _ _ => Z18Xc); (with_reducible rename News _ _ _ _ => Z18Xe); k_dflt (refine r_splitW Z18Xc Z18Xe (by decide +kernel) (by assumption) (by omega) ?_); intro Z18Xa Z18Xp Z18Xf Z18Xl Z18Xk Z18Xj Z18Xb Z18Xd Z18Xm; (try k_lt Z18Xm); (obtain ⟨Z18Xn, Z18Xg⟩ := Z18Xj 0 [] rfl); (obtain ⟨Z18Xo, Z18Xh⟩ := Z18Xj _ _ (partsW_last _)); (have Z18Xi := parts_end Z18Xk Z18Xh)))
  k_with "call builtin:len" => (((with_reducible show wpAny _ _ (call (Value.builtin "len") [Value.ref _]) _ _ _); k_dflt (refine r_lenL (by walk_at "S_il2") (by assumption) (by omega) ?_); intro _ _))
  k_with "S_il2" => (((rename News _ _ _ _ => Z1aXa); exact ⟨_, News.get Z1aXa (by k_mem), rfl, _, rfl⟩))
  k_with "subscriptTail Name Constant ref int" => ((k_here; k_dflt (refine r_itemL (i := 0) (by walk_at "S_il2") (by assumption) (by omega) ?_)))
  k_with "subscriptTail Name UnaryOp ref int" => ((k_here; k_dflt (refine r_itemM1 (by walk_at "S_il2") (by omega) (by assumption) ?_)))
  k_with "exec For Name Name cons nil" => (refine stop9 ?_)
  k_with "call builtin:str.find" => ((k_here; k_dflt (refine' r_find1 (by omega) (by omega) (by omega) ?Q1eXa ?Q1eXb; (case Q1eXa => intro Z1eXd); (case Q1eXb => intro Z1eXe Z1eXb Z1eXa Z1eXc))))
  k_with "call builtin:str.find" => ((k_here; k_dflt (refine r_find_empty (by omega) (by omega) (by omega) ?_)))
  k_with "pyIter ref" => (refine stop9 ?_)
  trivial
theorem con_ellw {w : World} {p loose mean mg mb} (a t : List Nat) (tw tg : Tok) (ha : a.length ≤ 1000) (ht : t.length ≤ 1000) (ha1 : 46 ∉ a) :
    PCon 2 Challenge.pw_sc0056_02 w (hd.heap_1 w.params) p loose mean mg mb 21 [.str (S (formW a)) tw, .str (S t) tg] (fun _ _ v => v = .bool (subB a t)) := by
  dsimp only [PCon]
  intros
  rename_i hret
  refine wpAny_call ?_
  k_dflt (walk_at "S_enter")
  (try clear sfl)
  k_steps
  refine Stop9.go ?_
  rename Fr _ _ _ _ => F1
  rename News _ _ _ _ => N1
  rename _ = a.length + 2 => hv2
  rename ∀ (i : Nat) p, (partsW a)[i]? = some p → _ => hp2
  k_dflt (refine For_own F1 rfl rfl ?_)
  k_steps
  refine Stop9.go ?_
  obtain ⟨nw, hnw⟩ := news_name N1
  k_dflt (refine loopL (J := fun i m news => (∃ (p : Nat) (tp te : Tok), p ≤ t.length ∧ subB (a.drop (i - 1)) (t.drop p) = subB a t ∧ m (PySem.Str.ofString "startpos") = some (.int (p : Int) tp) ∧ m (PySem.Str.ofString "endpos") = some (.int ((t.length : Nat) : Int) te) ∧ m (PySem.Str.ofString "got") = some (.str (S t) tg)) ∧ news = nw) rfl F1 N1 (.tail _ (.head _)) ?hJD ?h0 ?turn ?done)
  case hJD => rintro i m news ⟨_, rfl⟩; subst hnw; exact .tail _ (.head _)
  case h0 => exact ⟨⟨0, _, _, Nat.zero_le _, rfl, by rfl, by rfl, by rfl⟩, hnw.symm⟩
  case turn =>
    clear F1 N1
    subst hnw
    rintro i v m news It oI h tk hi hv ⟨⟨q, tp, te, b1, b2, b3, b4, b5⟩, rfl⟩ off lt F2 N2
    have hpl := partsW_len a
    have hx : ∃ p, (partsW a)[i]? = some p := ⟨_, List.getElem?_eq_getElem (by omega)⟩
    obtain ⟨pt, hpt⟩ := hx
    obtain ⟨tt, htt⟩ := hp2 _ _ hpt
    rw [htt] at hv
    cases hv
    (try clear sfl)
    rcases partsW_get hpt with ⟨e1, rfl⟩ | ⟨c, e1, e2, rfl⟩ | ⟨e1, rfl⟩
    · dsimp only [TurnL]
      k_steps
      subst e1
      rename Fr _ _ _ _ => F3
      rename News _ _ _ _ => N3
      exact EndL.intro F3 N3 _ (fun q hq => hq) off ⟨⟨q, _, te, b1, b2, by rfl, by exact b4, by exact b5⟩, rfl⟩
    · have hdc := drop_cons e1 e2
      rw [hdc] at b2
      dsimp only [TurnL]
      k_steps
      k_dflt (refine r_find1 (by omega) (by omega) (by omega) (fun hno => ?_) (fun k hk hc hn => ?_))
      · rw [Int.toNat_natCast] at hno
        rw [subB_miss hno] at b2
        k_steps
        refine hret _ _ _ (pc_kept (by assumption) (by assumption)) ?_
        rw [← b2]
      · rw [Int.toNat_natCast] at hk hn
        rw [subB_hit hk hc hn] at b2
        have hkl : k < t.length := (List.getElem?_eq_some_iff.mp hc).1
        k_steps
        rename Fr _ _ _ _ => F3
        rename News _ _ _ _ => N3
        exact EndL.intro F3 N3 _ (fun q hq => hq) off ⟨⟨k + 1, _, te, by omega, b2, by rfl, by exact b4, by exact b5⟩, rfl⟩
    · dsimp only [TurnL]
      k_steps
      rename Fr _ _ _ _ => F3
      rename News _ _ _ _ => N3
      refine EndL.intro F3 N3 _ (fun q hq => hq) off ⟨⟨q, _, te, b1, ?_, by rfl, by exact b4, by exact b5⟩, rfl⟩
      rw [List.drop_of_length_le (by omega), subB_nil]
      rw [List.drop_of_length_le (by omega), subB_nil] at b2
      exact b2
  case done =>
    subst hnw
    rintro m news h tk ⟨⟨q, tp, te, b1, b2, b3, b4, b5⟩, rfl⟩ F2 N2
    clear F1 N1
    rw [List.drop_of_length_le (by omega), subB_nil] at b2
    dsimp only
    k_steps
    refine hret _ _ _ (pc_kept (by assumption) (by assumption)) ?_
    rw [← b2]
end
section
example : True := by
  k_with_none
  w_top off
  k_with "olt" => (first | assumption | ((fail_if_success refine oM ?_); refine oL ?_; k_extra "ole") | k_extra "olh")
  k_with "olh" => (refine oH (by assumption) (by k_extra "ole"))
  k_with "ole" => (first | exact Nat.le_refl _ | assumption | exact oB | ((first | refine oA ?_ | refine oA2 ?_ | refine oA3 ?_); k_extra "ocl") | (refine oS ?_; k_extra "ole") | (refine Nat.le_of_lt ?_; (first | assumption | k_extra "olh")) | exact oE)
  k_with "olt2" => (first | k_extra "oas" | ((fail_if_success refine oM ?_); refine oL ?_; k_extra "ole2") | k_extra "olh2")
  k_with "olh2" => (refine oH (by k_extra "oas") (by k_extra "ole2"))
  k_with "ole2" => (first | exact Nat.le_refl _ | k_extra "oas" | exact oB | ((first | refine oA ?_ | refine oA2 ?_ | refine oA3 ?_); k_extra "ocl") | (refine oS ?_; k_extra "ole2") | (refine Nat.le_of_lt ?_; (first | k_extra "oas" | k_extra "olh2")) | exact oE)
  k_with "opu" => (first | exact oB | exact Nat.le_refl _ | (refine oS ?_; k_extra "opu"))
  k_with "olt0" => (refine oL ?_; k_extra "opu")
  k_with "one" => (first | (refine Nat.ne_of_gt ?_; (fail_if_success refine oM ?_); k_extra "olt0") | (refine Nat.ne_of_lt ?_; (fail_if_success refine oM ?_); k_extra "olt0") | exact Ne.symm (by assumption) | (refine Nat.ne_of_gt ?_; (fail_if_success refine oM ?_); k_extra "oas") | (refine Nat.ne_of_lt ?_; (fail_if_success refine oM ?_); k_extra "oas") | (refine Nat.ne_of_gt ?_; (fail_if_success refine oM ?_); k_extra "odd") | (refine Nat.ne_of_lt ?_; (fail_if_success refine oM ?_); k_extra "odd") | (refine Nat.ne_of_gt ?_; (fail_if_success refine oM ?_); k_extra "olt") | (refine Nat.ne_of_lt ?_; (fail_if_success refine oM ?_); k_extra "olt") | (refine Nat.ne_of_gt ?_; (fail_if_success refine oM ?_); k_extra "olt2") | (refine Nat.ne_of_lt ?_; (fail_if_success refine oM ?_); k_extra "olt2") | decide)
  k_with "ol1" => (first | ((fail_if_success refine oM ?_); first | k_extra "oas" | k_extra "olt0" | k_extra "odd" | k_extra "olt" | k_extra "olt2") | k_extra "ocl" | exact oT0 | exact oT5)
  k_with "oe1" => (first | ((fail_if_success refine oN ?_); first | k_extra "oas" | k_extra "opu" | k_extra "ole" | k_extra "ole2" | exact oE (by k_extra "oas")) | k_extra "ocl" | k_extra "olit" | k_extra "oas")
  k_with "olit" => (first | exact oT4 | exact oP | exact oP2 | exact oT1 | exact oT2 | exact oT3 | exact oQ5 | exact oQ1 | exact oQ2 | exact oQ3 | exact oQ4 | exact oQ6 | exact oD)
  k_with "ocl" => (with_unfolding_all exact Nat.le_of_ble_eq_true rfl)
  k_with "oas" => (first | assumption | exact oa1 | exact ob1 | exact oa2 | exact ob2 | exact oa3 | exact ob3 | exact oa4 | exact ob4 | exact oa5 | exact ob5 | exact oa6 | exact ob6 | exact oa7 | exact ob7)
  k_with "odd" => (first | exact oa1 ob7 | exact oa2 ob7 | exact oa3 ob7 | exact oa4 ob7 | exact oa5 ob7 | exact oa6 ob7 | exact oa7 ob7 | exact oa1 (ob7 ob7) | exact oa2 (ob7 ob7) | exact oa3 (ob7 ob7) | exact oa4 (ob7 ob7) | exact oa5 (ob7 ob7) | exact oa6 (ob7 ob7) | exact oa7 (ob7 ob7) | exact ob1 ob7 | exact ob2 ob7 | exact ob3 ob7 | exact ob4 ob7 | exact ob5 ob7 | exact ob6 ob7 | exact ob7 ob7)
  k_with "oin" => (first | decide | exact oI1 | exact oI3 | exact oI2 (by k_extra "oas"))
  k_with "om" => (with_reducible first | (first | assumption | ((fail_if_success fail_if_success refine oXn ?_); k_extra "one") | ((fail_if_success fail_if_success refine oXl ?_); k_extra "ol1") | ((fail_if_success fail_if_success refine oXe ?_); k_extra "oe1") | k_extra "oin") | fail)
  k_with "S_fit" => (first | omega | ((simp only [S_len, List.length_append, List.length_cons, List.length_nil, List.length_take, List.length_drop, dots, PySem.sizeLine_eq]); omega))
  k_with "call builtin:len" => (((with_reducible show wpAny _ _ (call (Value.builtin "len") [Value.str (S _) _]) _ _ _); refine r_len (by walk_at "S_fit") ?_))
  k_with "call builtin:str.startswith" => (((with_reducible show wpAny _ _ (call (Value.builtin "str.startswith") [Value.str (S _) _, Value.str (S _) _]) _ _ _); refine r_starts ?_))
  k_with "call builtin:str.endswith" => (((with_reducible show wpAny _ _ (call (Value.builtin "str.endswith") [Value.str (S _) _, Value.str (S _) _]) _ _ _); refine r_ends ?_))
  k_with "truthy str" => (((with_reducible show wpAny _ _ (truthy (Value.str (S _) _)) _ _ _); refine r_truthy (by walk_at "S_fit") ?_))
  k_with "exec For Name Name cons nil" => ((k_here; (rename Fr _ _ _ _ => Z6Xa); (with_unfolding_all refine' For_invVF Z6Xa ?Q6Xa ?Q6Xb ?_; (case Q6Xa => exact rfl); (case Q6Xb => exact rfl); k_whole)))
  k_with "pyIter ref" => (((with_reducible show wpAny _ _ (pyIter (Value.ref _)) (fun it s₂ => LoopAtV _ _ _ _ _ _ _ _ _ it s₂) _ _); k_listUnr))
  k_with "S_enter" => ((refine' code_defG (news := []) ?Q8Xa ?Q8Xb ?Q8Xc ?Q8Xd ?Q8Xe ?Q8Xf ?Q8Xg ?Q8Xh ?Q8Xi ?Q8Xj ?Q8Xk ?Q8Xl ?Q8Xm ?_ ?Q8Xn ?Q8Xo ?Q8Xp ?Q8Xq; (case Q8Xf => exact rfl); (case Q8Xg => exact rfl); (case Q8Xh => assumption); (case Q8Xa => k_asm); (case Q8Xb => k_asm); (case Q8Xc => k_asm); (case Q8Xd => exact News.nil); (case Q8Xe => k_asm); (case Q8Xi => k_is); (case Q8Xj => k_is); (case Q8Xk => ktr_room); (case Q8Xl => exact BindsTo.of_eq rfl); (case Q8Xq => decide); (case Q8Xm => exact locs rfl); (case Q8Xn => exact rfl); (case Q8Xo => exact rfl); (case Q8Xp => exact rfl); k_whole; intro Z8Xh Z8Xd Z8Xi Z8Xc Z8Xb Z8Xe Z8Xa Z8Xg Z8Xf Z8Xj; (try dsimp only [List.map_nil] at Z8Xj); (try dsimp only); (try k_lift Z8Xa); (try k_fold)))
  k_with "S_look" => (first | exact rfl | assumption | exact (if_pos rfl) | (refine (if_neg (by decide)).trans ?_; walk_at "S_look"))
  k_with "eval Name" => ((k_here; k_dflt (refine' nameX_L ?QaXa ?QaXb ?_ ?QaXc ?QaXd; (case QaXa => k_asm); (case QaXc => rfl); (case QaXd => rfl); (case QaXb => walk_at "S_look"); k_whole)))
  k_with "S_lit" => (first | (with_reducible exact lit_dots) | (with_reducible rfl))
  k_with "S_nn" => (first | omega | ((simp only [List.length_append, List.length_cons, List.length_nil, List.length_take, List.length_drop, dots] at *); omega))
  k_with "binaryOp Add str str" => (((with_reducible show wpAny _ _ (binaryOp _ (Value.str _ _) (Value.str _ _)) _ _ _); k_dflt (refine r_add (by walk_at "S_lit") (by walk_at "S_lit") (by walk_at "S_fit") ?_); intro _ _))
  k_with "subscriptTail Name Slice str ref" => (((with_reducible show wpAny _ _ (subscriptTail _ (Expr.Slice none (some _) none _) (Value.str (S _) _) _) _ _ _); (with_reducible rename Fr _ _ _ _ => ZeXa); (with_reducible rename News _ _ _ _ => ZeXb); (refine r_sliceTo (s := ⟨_, _, _, _, _⟩) ZeXa ZeXb (by walk_at "S_nn") (by walk_at "S_fit") ?_); intro _ _ _ _ _))
  k_with "subscriptTail Name Slice str ref" => (((with_reducible show wpAny _ _ (subscriptTail _ (Expr.Slice (some _) none none _) (Value.str (S _) _) _) _ _ _); (with_reducible rename Fr _ _ _ _ => ZfXa); (with_reducible rename News _ _ _ _ => ZfXb); (refine r_sliceFrom (s := ⟨_, _, _, _, _⟩) ZfXa ZfXb (by walk_at "S_nn") (by walk_at "S_fit") ?_); intro _ _ _ _ _))
  k_with "exec For Name Call cons nil" => ((k_here; (rename Fr _ _ _ _ => ZgXa); (with_unfolding_all refine' For_invVF ZgXa ?QgXa ?QgXb ?_; (case QgXa => exact rfl); (case QgXb => exact rfl); k_whole)))
  k_with "S_use" => ((refine' pcon_use ?QhXa ?QhXb ?QhXc ?QhXd ?QhXe ?QhXf ?QhXg ?QhXh ?_; (case QhXb => k_asm); (case QhXc => k_asm); (case QhXd => k_asm); (case QhXe => k_asm); (case QhXa => walk_at "S_con"); (case QhXf => first | exact rfl | assumption); (case QhXg => ktr_room); (case QhXh => ktr_units)))
  k_with "call ref" => ((k_here; k_dflt (walk_at "S_use"); intro ZiXf ZiXd ZiXe ZiXb; (have ZiXa := Fr.keeps (by k_asm) ZiXb); (have ZiXc := News.grown (by k_asm) ZiXb); walk_at "S_back" <;> ((try dsimp only); (try k_fold))))
  k_with "pyIter ref" => (k_extra "S_loop")
  k_with "S_bool" => ((intro ZkXa; (rcases bool_or ZkXa with ⟨R8, R7⟩ | ⟨R8, R7⟩) <;> subst R7))
  k_with "call builtin:list.append" => ((k_here; (with_reducible show wpAny _ _ (call (Value.builtin _) [Value.ref _, _]) _ _ _); k_dflt (refine' append_K ?QlXa ?QlXb ?QlXc ?_ ?QlXd; (case QlXa => k_asm); (case QlXb => k_asm); (case QlXc => k_upd); (case QlXd => exact size_ok (k := 100000) (by omega) (by decide)); k_whole); intro ZlXc ZlXa ZlXb; (try k_sweep)))
  k_with "m_k_room" => (ktr_room)
  k_with "m_k_units" => (ktr_units)
  k_with "S_enterM" => ((refine' code_defG ?QoXa ?QoXb ?QoXc ?QoXd ?QoXe ?QoXf ?QoXg ?QoXh ?QoXi ?QoXj ?QoXk ?QoXl ?QoXm ?_ ?QoXn ?QoXo ?QoXp ?QoXq; (case QoXf => exact rfl); (case QoXg => exact rfl); (case QoXh => assumption); (case QoXa => k_asm); (case QoXb => k_asm); (case QoXc => k_asm); (case QoXd => k_asm); (case QoXe => k_asm); (case QoXi => k_is); (case QoXj => k_is); (case QoXk => ktr_room); (case QoXl => exact BindsTo.of_eq rfl); (case QoXq => decide); (case QoXm => exact locs rfl); (case QoXn => exact rfl); (case QoXo => exact rfl); (case QoXp => exact rfl); k_whole; intro ZoXh ZoXd ZoXi ZoXc ZoXb ZoXe ZoXa ZoXg ZoXf ZoXj; (try dsimp only [List.map_nil, List.map_cons] at ZoXj); (try dsimp only); (try k_lift ZoXa); (try k_fold)))
  k_with "callWith" => (((with_reducible show wpAny _ _ (callWith _ (Prod.fst _) (Prod.snd _) _ _) _ _ _); dsimp only))
  k_with "S_int" => (first | omega | decide | ((simp only [List.length_cons, List.length_nil, decide_eq_true_eq, decide_eq_false_iff_not, beq_iff_eq, beq_eq_false_iff_ne, ne_eq, Int.not_lt, Int.not_le] at *); omega))
  k_with "binaryOp FloorDiv int int" => (((with_reducible show wpAny _ _ (binaryOp _ (Value.int _ _) (Value.int _ _)) _ _ _); k_dflt (refine r_fdiv (by walk_at "S_int") (by walk_at "S_int") ?_); intro _ _))
  k_with "binaryOp Mod int int" => (((with_reducible show wpAny _ _ (binaryOp _ (Value.int _ _) (Value.int _ _)) _ _ _); k_dflt (refine r_fmod (by walk_at "S_int") ?_); intro _ _))
  k_with "S_item" => (((with_reducible show wpAny _ _ (subscriptTail _ _ (Value.str (S _) _) (Value.int _ _)) _ _ _); k_dflt (refine r_item (by walk_at "S_int") (by walk_at "S_int") (by walk_at "S_fit") ?_); intro _ _))
  k_with "subscriptTail Name BinOp str int" => (walk_at "S_item")
  k_with "subscriptTail Name Constant str int" => (walk_at "S_item")
  k_with "subscriptTail Name Name str int" => (walk_at "S_item")
  k_with "S_lit" => (first | (with_reducible exact lit_dots) | (with_reducible exact lit_empty) | (with_reducible exact lit34) | (with_reducible exact lit9234) | (with_reducible exact lit92) | (with_reducible exact lit10) | (with_reducible exact lit38) | (with_reducible exact lit59) | (with_reducible rfl))
  k_with "call builtin:str.replace" => (((with_reducible show wpAny _ _ (call (Value.builtin _) [Value.str (S _) _, Value.str _ _, Value.str _ _]) _ _ _); k_dflt (refine r_replace (by walk_at "S_lit") (by walk_at "S_lit") (by decide) (Nat.succ_ne_zero _) (Nat.succ_ne_zero _) (Nat.ne_of_lt (Nat.lt_succ_self _)) (by decide) (by walk_at "S_nn") ?_); intro _ _))
  k_with "call builtin:str.join" => ((k_here; (with_reducible show wpAny _ _ (call (Value.builtin _) [Value.str _ _, Value.ref _]) _ _ _); k_dflt (refine r_join (by walk_at "S_lit") (by walk_at "S_isl") (by walk_at "S_strs") (by walk_at "S_sum") ?_); intro _ _))
  k_with "S_isl" => (first | assumption | exact ⟨LCg.lst _, News.get (by k_asm) (by k_mem), rfl, _, rfl⟩ | is_list)
  k_with "S_strs" => (first | exact StrsAre.nil | assumption | (exact CharsAre.strs (by assumption)))
  k_with "binaryOp Mult str int" => (((with_reducible show wpAny _ _ (binaryOp _ (Value.str (S _) _) (Value.int _ _)) _ _ _); k_dflt (refine r_mul (by walk_at "S_int") (by walk_at "S_int") (by walk_at "S_nn") ?_); intro _ _))
  k_with "S_enterC" => ((refine' code_defCG ?Q13Xa ?Q13Xb ?Q13Xc ?Q13Xd ?Q13Xe ?Q13Xf ?Q13Xg ?Q13Xh ?Q13Xi ?Q13Xj ?Q13Xk ?Q13Xl ?Q13Xm ?Q13Xn ?_ ?Q13Xo ?Q13Xp ?Q13Xq; (case Q13Xf => exact rfl); (case Q13Xg => exact rfl); (case Q13Xh => assumption); (case Q13Xa => k_asm); (case Q13Xb => k_asm); (case Q13Xc => k_asm); (case Q13Xd => k_asm); (case Q13Xe => k_asm); (case Q13Xi => k_is); (case Q13Xj => k_is); (case Q13Xk => ktr_room); (case Q13Xl => exact BindsTo.of_eq rfl); (case Q13Xm => rfl); (case Q13Xn => decide); (case Q13Xo => exact rfl); (case Q13Xp => exact rfl); (case Q13Xq => exact rfl); k_whole; intro Z13Xj Z13Xd Z13Xk Z13Xo Z13Xi Z13Xc Z13Xb Z13Xe Z13Xh Z13Xa Z13Xg Z13Xf Z13Xm Z13Xl Z13Xn; (try dsimp only [List.map_nil, List.map_cons] at Z13Xl); (try k_lt Z13Xm); k_cells Z13Xh; (try simp only [List.cons_append, List.nil_append] at Z13Xe); (try dsimp only); (try k_lift Z13Xa); (try k_fold)))
  k_with "S_lcs" => ((k_here; k_dflt (refine ListComp_S (_F₀ := by k_asm) (by rfl) (by decide) (by rfl) (by decide) (by rfl) ?_)))
  k_with "S_lit" => (first | (with_reducible exact lit_dots) | (with_reducible exact lit_empty) | (with_reducible exact lit34) | (with_reducible exact lit9234) | (with_reducible exact lit92) | (with_reducible exact lit10) | (with_reducible exact lit38) | (with_reducible exact lit59) | (with_reducible exact lit60) | (with_reducible exact lit62) | (with_reducible exact lit13) | (with_reducible exact lit9) | (with_reducible exact litamp) | (with_reducible exact litlt) | (with_reducible exact litgt) | (with_reducible exact litquot) | (with_reducible rfl))
  k_with "S_sum" => (assumption)
  k_with "call builtin:str.join" => ((k_here; (with_reducible show wpAny _ _ (call (Value.builtin _) [Value.str _ _, Value.str _ _]) _ _ _); (with_reducible rename Fr _ _ _ _ => Z17Xb); (with_reducible rename News _ _ _ _ => Z17Xd); k_dflt (refine r_joinS (by walk_at "S_lit") rfl Z17Xb Z17Xd (by omega) ?_); intro Z17Xe _ _ Z17Xa Z17Xc))
  k_with "S_con" => (exact con_ellf _ _ _ _ (by assumption) (by omega) (by omega) (by assumption))
  k_with "S_back" => (walk_at "S_bool")
  trivial
theorem say_is {a t : List Nat} {b : Bool} {v : Value} {tv : Tok} (h : subB a t = b) (e : v = .str (S (sayL b)) tv) : ∃ tv, v = .str (S (sayL (subB a t))) tv := ⟨tv, by rw [h]; exact e⟩
theorem con_ellf {w : World} {p loose mean mg mb} (a t : List Nat) (tw tg : Tok) (h0 : a ≠ []) (ha : a.length ≤ 1000) (ht : t.length ≤ 1000) (ha1 : 46 ∉ a) :
    PCon 2 Challenge.pw_sc0056_02 w (hd.heap_1 w.params) p loose mean mg mb 21 [.str (S (dots ++ glue (a.map fun c => [c]) ++ dots)) tw, .str (S t) tg] (fun _ _ v => v = .bool (subB a t)) := by
  rw [form_eq h0]
  exact con_ellw a t tw tg ha ht ha1
theorem con_says {w : World} {p loose mean mg mb} (a t : List Nat) (ta tt : Tok) (ha : a ≠ []) (ha9 : a.length ≤ 100) (ht : t.length ≤ 900) (hf : 46 ∉ a) :
    PCon 4 Challenge.pw_sc0056_02 w (hd.heap_1 w.params) p loose mean mg mb 127 [.str (S a) ta, .str (S t) tt] (fun _ _ v => ∃ tv, v = .str (S (sayL (subB a t))) tv) := by
  have hgl : (glue (a.map fun c => [c])).length ≤ 400 := by
    have := glue_len (a.map fun c => [c])
    have e : ((a.map fun c => [c]).map List.length).sum = a.length := by
      clear this ha ha9 hf
      induction a with
      | nil => rfl
      | cons c r ih => simp only [List.map_cons, List.sum_cons, ih, List.length_cons, List.length_nil]; omega
    rw [e, List.length_map] at this
    omega
  dsimp only [PCon]
  intros
  rename_i hret
  refine wpAny_call ?_
  k_dflt (walk_at "S_enter")
  (try clear sfl)
  k_steps
  all_goals
    rename subB a t = _ => hb9
    exact hret _ _ _ (pc_kept (by assumption) (by assumption)) (say_is hb9 rfl)
end
section
local macro_rules | `(tactic| walk_at "zz0") => `(tactic| fail)
local macro_rules | `(tactic| walk_at "zz1") => `(tactic| fail)
local macro_rules | `(tactic| walk_at "zz2") => `(tactic| fail)
example : True := by
  k_with "pyIter str" => ((k_here; (with_reducible show wpAny _ _ (pyIter (Value.str (S _) _)) (CompPost _ _ _ _ _ _ _ _ _) _ _); (rename Fr _ _ _ _ => Z1aXc); (rename News _ _ _ _ => Z1aXd); k_dflt (refine' r_compS (fun Z1aXe => [92, Z1aXe]) ?Q1aXa Z1aXc Z1aXd ?Q1aXb ?Q1aXc ?Q1aXd; (case Q1aXa => exact rfl); (case Q1aXb => walk_at "S_fit")); (case' Q1aXd => intros); (case' Q1aXc => (intro Z1aXa Z1aXe Z1aXk Z1aXj Z1aXi Z1aXb Z1aXf Z1aXh Z1aXg; refine wpAny_leafK ?_))))
  k_with "S_sum" => (assumption)
  trivial
theorem con_hidden {w : World} {p loose mean mg mb} (x : List Nat) (t : Tok) (hx : x.length ≤ 9) :
    PCon 4 Challenge.pw_sc0056_02 w (hd.heap_1 w.params) p loose mean mg mb 115 [.str (S x) t] (fun _ _ v => ∃ t, v = .str (S (x.flatMap fun c => [92, c])) t) := by
  have hsum : ((x.map fun c => [92, c]).map (·.length)).sum + (x.map fun c => [92, c]).length ≤ 1000000 := by
    have := sum_le (f := fun c => [92, c]) (B := 2) (fun _ => by simp) x
    rw [List.length_map]; omega
  dsimp only [PCon]
  intros
  rename_i hret
  refine wpAny_call ?_
  k_dflt (walk_at "S_enter")
  (try clear sfl)
  k_steps
  refine hret _ _ _ (pc_kept (by assumption) (by assumption)) ⟨_, congrArg (Value.str · _) (congrArg S ?_)⟩
  rw [List.flatMap_def]
end
section
example : True := by
  k_with_none
  w_top off
  k_with "olt" => (first | assumption | ((fail_if_success refine oM ?_); refine oL ?_; k_extra "ole") | k_extra "olh")
  k_with "olh" => (refine oH (by assumption) (by k_extra "ole"))
  k_with "ole" => (first | exact Nat.le_refl _ | assumption | exact oB | ((first | refine oA ?_ | refine oA2 ?_ | refine oA3 ?_); k_extra "ocl") | (refine oS ?_; k_extra "ole") | (refine Nat.le_of_lt ?_; (first | assumption | k_extra "olh")) | exact oE)
  k_with "olt2" => (first | k_extra "oas" | ((fail_if_success refine oM ?_); refine oL ?_; k_extra "ole2") | k_extra "olh2")
  k_with "olh2" => (refine oH (by k_extra "oas") (by k_extra "ole2"))
  k_with "ole2" => (first | exact Nat.le_refl _ | k_extra "oas" | exact oB | ((first | refine oA ?_ | refine oA2 ?_ | refine oA3 ?_); k_extra "ocl") | (refine oS ?_; k_extra "ole2") | (refine Nat.le_of_lt ?_; (first | k_extra "oas" | k_extra "olh2")) | exact oE)
  k_with "opu" => (first | exact oB | exact Nat.le_refl _ | (refine oS ?_; k_extra "opu"))
  k_with "olt0" => (refine oL ?_; k_extra "opu")
  k_with "one" => (first | (refine Nat.ne_of_gt ?_; (fail_if_success refine oM ?_); k_extra "olt0") | (refine Nat.ne_of_lt ?_; (fail_if_success refine oM ?_); k_extra "olt0") | exact Ne.symm (by assumption) | (refine Nat.ne_of_gt ?_; (fail_if_success refine oM ?_); k_extra "oas") | (refine Nat.ne_of_lt ?_; (fail_if_success refine oM ?_); k_extra "oas") | (refine Nat.ne_of_gt ?_; (fail_if_success refine oM ?_); k_extra "odd") | (refine Nat.ne_of_lt ?_; (fail_if_success refine oM ?_); k_extra "odd") | (refine Nat.ne_of_gt ?_; (fail_if_success refine oM ?_); k_extra "olt") | (refine Nat.ne_of_lt ?_; (fail_if_success refine oM ?_); k_extra "olt") | (refine Nat.ne_of_gt ?_; (fail_if_success refine oM ?_); k_extra "olt2") | (refine Nat.ne_of_lt ?_; (fail_if_success refine oM ?_); k_extra "olt2") | decide)
  k_with "ol1" => (first | ((fail_if_success refine oM ?_); first | k_extra "oas" | k_extra "olt0" | k_extra "odd" | k_extra "olt" | k_extra "olt2") | k_extra "ocl" | exact oT0 | exact oT5)
  k_with "oe1" => (first | ((fail_if_success refine oN ?_); first | k_extra "oas" | k_extra "opu" | k_extra "ole" | k_extra "ole2" | exact oE (by k_extra "oas")) | k_extra "ocl" | k_extra "olit" | k_extra "oas")
  k_with "olit" => (first | exact oT4 | exact oP | exact oP2 | exact oT1 | exact oT2 | exact oT3 | exact oQ5 | exact oQ1 | exact oQ2 | exact oQ3 | exact oQ4 | exact oQ6 | exact oD)
  k_with "ocl" => (with_unfolding_all exact Nat.le_of_ble_eq_true rfl)
  k_with "oas" => (first | assumption | exact oa1 | exact ob1 | exact oa2 | exact ob2 | exact oa3 | exact ob3 | exact oa4 | exact ob4 | exact oa5 | exact ob5 | exact oa6 | exact ob6 | exact oa7 | exact ob7)
  k_with "odd" => (first | exact oa1 ob7 | exact oa2 ob7 | exact oa3 ob7 | exact oa4 ob7 | exact oa5 ob7 | exact oa6 ob7 | exact oa7 ob7 | exact oa1 (ob7 ob7) | exact oa2 (ob7 ob7) | exact oa3 (ob7 ob7) | exact oa4 (ob7 ob7) | exact oa5 (ob7 ob7) | exact oa6 (ob7 ob7) | exact oa7 (ob7 ob7) | exact ob1 ob7 | exact ob2 ob7 | exact ob3 ob7 | exact ob4 ob7 | exact ob5 ob7 | exact ob6 ob7 | exact ob7 ob7)
  k_with "oin" => (first | decide | exact oI1 | exact oI3 | exact oI2 (by k_extra "oas"))
  k_with "om" => (with_reducible first | (first | assumption | ((fail_if_success fail_if_success refine oXn ?_); k_extra "one") | ((fail_if_success fail_if_success refine oXl ?_); k_extra "ol1") | ((fail_if_success fail_if_success refine oXe ?_); k_extra "oe1") | k_extra "oin") | fail)
  k_with "S_fit" => (first | omega | ((simp only [S_len, List.length_append, List.length_cons, List.length_nil, List.length_take, List.length_drop, dots, PySem.sizeLine_eq]); omega))
  k_with "call builtin:len" => (((with_reducible show wpAny _ _ (call (Value.builtin "len") [Value.str (S _) _]) _ _ _); refine r_len (by walk_at "S_fit") ?_))
  k_with "call builtin:str.startswith" => (((with_reducible show wpAny _ _ (call (Value.builtin "str.startswith") [Value.str (S _) _, Value.str (S _) _]) _ _ _); refine r_starts ?_))
  k_with "call builtin:str.endswith" => (((with_reducible show wpAny _ _ (call (Value.builtin "str.endswith") [Value.str (S _) _, Value.str (S _) _]) _ _ _); refine r_ends ?_))
  k_with "truthy str" => (((with_reducible show wpAny _ _ (truthy (Value.str (S _) _)) _ _ _); refine r_truthy (by walk_at "S_fit") ?_))
  k_with "exec For Name Name cons nil" => ((k_here; (rename Fr _ _ _ _ => Z6Xa); (with_unfolding_all refine' For_invVF Z6Xa ?Q6Xa ?Q6Xb ?_; (case Q6Xa => exact rfl); (case Q6Xb => exact rfl); k_whole)))
  k_with "pyIter ref" => (((with_reducible show wpAny _ _ (pyIter (Value.ref _)) (fun it s₂ => LoopAtV _ _ _ _ _ _ _ _ _ it s₂) _ _); k_listUnr))
  k_with "S_enter" => ((refine' code_defG (news := []) ?Q8Xa ?Q8Xb ?Q8Xc ?Q8Xd ?Q8Xe ?Q8Xf ?Q8Xg ?Q8Xh ?Q8Xi ?Q8Xj ?Q8Xk ?Q8Xl ?Q8Xm ?_ ?Q8Xn ?Q8Xo ?Q8Xp ?Q8Xq; (case Q8Xf => exact rfl); (case Q8Xg => exact rfl); (case Q8Xh => assumption); (case Q8Xa => k_asm); (case Q8Xb => k_asm); (case Q8Xc => k_asm); (case Q8Xd => exact News.nil); (case Q8Xe => k_asm); (case Q8Xi => k_is); (case Q8Xj => k_is); (case Q8Xk => ktr_room); (case Q8Xl => exact BindsTo.of_eq rfl); (case Q8Xq => decide); (case Q8Xm => exact locs rfl); (case Q8Xn => exact rfl); (case Q8Xo => exact rfl); (case Q8Xp => exact rfl); k_whole; intro Z8Xh Z8Xd Z8Xi Z8Xc Z8Xb Z8Xe Z8Xa Z8Xg Z8Xf Z8Xj; (try dsimp only [List.map_nil] at Z8Xj); (try dsimp only); (try k_lift Z8Xa); (try k_fold)))
  k_with "S_look" => (first | exact rfl | assumption | exact (if_pos rfl) | (refine (if_neg (by decide)).trans ?_; walk_at "S_look"))
  k_with "eval Name" => ((k_here; k_dflt (refine' nameX_L ?QaXa ?QaXb ?_ ?QaXc ?QaXd; (case QaXa => k_asm); (case QaXc => rfl); (case QaXd => rfl); (case QaXb => walk_at "S_look"); k_whole)))
  k_with "S_lit" => (first | (with_reducible exact lit_dots) | (with_reducible rfl))
  k_with "S_nn" => (first | omega | ((simp only [List.length_append, List.length_cons, List.length_nil, List.length_take, List.length_drop, dots] at *); omega))
  k_with "binaryOp Add str str" => (((with_reducible show wpAny _ _ (binaryOp _ (Value.str _ _) (Value.str _ _)) _ _ _); k_dflt (refine r_add (by walk_at "S_lit") (by walk_at "S_lit") (by walk_at "S_fit") ?_); intro _ _))
  k_with "subscriptTail Name Slice str ref" => (((with_reducible show wpAny _ _ (subscriptTail _ (Expr.Slice none (some _) none _) (Value.str (S _) _) _) _ _ _); (with_reducible rename Fr _ _ _ _ => ZeXa); (with_reducible rename News _ _ _ _ => ZeXb); (refine r_sliceTo (s := ⟨_, _, _, _, _⟩) ZeXa ZeXb (by walk_at "S_nn") (by walk_at "S_fit") ?_); intro _ _ _ _ _))
  k_with "subscriptTail Name Slice str ref" => (((with_reducible show wpAny _ _ (subscriptTail _ (Expr.Slice (some _) none none _) (Value.str (S _) _) _) _ _ _); (with_reducible rename Fr _ _ _ _ => ZfXa); (with_reducible rename News _ _ _ _ => ZfXb); (refine r_sliceFrom (s := ⟨_, _, _, _, _⟩) ZfXa ZfXb (by walk_at "S_nn") (by walk_at "S_fit") ?_); intro _ _ _ _ _))
  k_with "exec For Name Call cons nil" => ((k_here; (rename Fr _ _ _ _ => ZgXa); (with_unfolding_all refine' For_invVF ZgXa ?QgXa ?QgXb ?_; (case QgXa => exact rfl); (case QgXb => exact rfl); k_whole)))
  k_with "S_use" => ((refine' pcon_use ?QhXa ?QhXb ?QhXc ?QhXd ?QhXe ?QhXf ?QhXg ?QhXh ?_; (case QhXb => k_asm); (case QhXc => k_asm); (case QhXd => k_asm); (case QhXe => k_asm); (case QhXa => walk_at "S_con"); (case QhXf => first | exact rfl | assumption); (case QhXg => ktr_room); (case QhXh => ktr_units)))
  k_with "call ref" => ((k_here; k_dflt (walk_at "S_use"); intro ZiXf ZiXd ZiXe ZiXb; (have ZiXa := Fr.keeps (by k_asm) ZiXb); (have ZiXc := News.grown (by k_asm) ZiXb); walk_at "S_back" <;> ((try dsimp only); (try k_fold))))
  k_with "pyIter ref" => (k_extra "S_loop")
  k_with "S_bool" => ((intro ZkXa; (rcases bool_or ZkXa with ⟨R8, R7⟩ | ⟨R8, R7⟩) <;> subst R7))
  k_with "call builtin:list.append" => ((k_here; (with_reducible show wpAny _ _ (call (Value.builtin _) [Value.ref _, _]) _ _ _); k_dflt (refine' append_K ?QlXa ?QlXb ?QlXc ?_ ?QlXd; (case QlXa => k_asm); (case QlXb => k_asm); (case QlXc => k_upd); (case QlXd => exact size_ok (k := 100000) (by omega) (by decide)); k_whole); intro ZlXc ZlXa ZlXb; (try k_sweep)))
  k_with "m_k_room" => (ktr_room)
  k_with "m_k_units" => (ktr_units)
  k_with "S_enterM" => ((refine' code_defG ?QoXa ?QoXb ?QoXc ?QoXd ?QoXe ?QoXf ?QoXg ?QoXh ?QoXi ?QoXj ?QoXk ?QoXl ?QoXm ?_ ?QoXn ?QoXo ?QoXp ?QoXq; (case QoXf => exact rfl); (case QoXg => exact rfl); (case QoXh => assumption); (case QoXa => k_asm); (case QoXb => k_asm); (case QoXc => k_asm); (case QoXd => k_asm); (case QoXe => k_asm); (case QoXi => k_is); (case QoXj => k_is); (case QoXk => ktr_room); (case QoXl => exact BindsTo.of_eq rfl); (case QoXq => decide); (case QoXm => exact locs rfl); (case QoXn => exact rfl); (case QoXo => exact rfl); (case QoXp => exact rfl); k_whole; intro ZoXh ZoXd ZoXi ZoXc ZoXb ZoXe ZoXa ZoXg ZoXf ZoXj; (try dsimp only [List.map_nil, List.map_cons] at ZoXj); (try dsimp only); (try k_lift ZoXa); (try k_fold)))
  k_with "callWith" => (((with_reducible show wpAny _ _ (callWith _ (Prod.fst _) (Prod.snd _) _ _) _ _ _); dsimp only))
  k_with "S_int" => (first | omega | decide | ((simp only [List.length_cons, List.length_nil, decide_eq_true_eq, decide_eq_false_iff_not, beq_iff_eq, beq_eq_false_iff_ne, ne_eq, Int.not_lt, Int.not_le] at *); omega))
  k_with "binaryOp FloorDiv int int" => (((with_reducible show wpAny _ _ (binaryOp _ (Value.int _ _) (Value.int _ _)) _ _ _); k_dflt (refine r_fdiv (by walk_at "S_int") (by walk_at "S_int") ?_); intro _ _))
  k_with "binaryOp Mod int int" => (((with_reducible show wpAny _ _ (binaryOp _ (Value.int _ _) (Value.int _ _)) _ _ _); k_dflt (refine r_fmod (by walk_at "S_int") ?_); intro _ _))
  k_with "S_item" => (((with_reducible show wpAny _ _ (subscriptTail _ _ (Value.str (S _) _) (Value.int _ _)) _ _ _); k_dflt (refine r_item (by walk_at "S_int") (by walk_at "S_int") (by walk_at "S_fit") ?_); intro _ _))
  k_with "subscriptTail Name BinOp str int" => (walk_at "S_item")
  k_with "subscriptTail Name Constant str int" => (walk_at "S_item")
  k_with "subscriptTail Name Name str int" => (walk_at "S_item")
  k_with "S_lit" => (first | (with_reducible exact lit_dots) | (with_reducible exact lit_empty) | (with_reducible exact lit34) | (with_reducible exact lit9234) | (with_reducible exact lit92) | (with_reducible exact lit10) | (with_reducible exact lit38) | (with_reducible exact lit59) | (with_reducible rfl))
  k_with "call builtin:str.replace" => (((with_reducible show wpAny _ _ (call (Value.builtin _) [Value.str (S _) _, Value.str _ _, Value.str _ _]) _ _ _); k_dflt (refine r_replace (by walk_at "S_lit") (by walk_at "S_lit") (by decide) (Nat.succ_ne_zero _) (Nat.succ_ne_zero _) (Nat.ne_of_lt (Nat.lt_succ_self _)) (by decide) (by walk_at "S_nn") ?_); intro _ _))
  k_with "call builtin:str.join" => ((k_here; (with_reducible show wpAny _ _ (call (Value.builtin _) [Value.str _ _, Value.ref _]) _ _ _); k_dflt (refine r_join (by walk_at "S_lit") (by walk_at "S_isl") (by walk_at "S_strs") (by walk_at "S_sum") ?_); intro _ _))
  k_with "S_isl" => (first | assumption | exact ⟨LCg.lst _, News.get (by k_asm) (by k_mem), rfl, _, rfl⟩ | is_list)
  k_with "S_strs" => (first | exact StrsAre.nil | assumption | (exact CharsAre.strs (by assumption)))
  k_with "binaryOp Mult str int" => (((with_reducible show wpAny _ _ (binaryOp _ (Value.str (S _) _) (Value.int _ _)) _ _ _); k_dflt (refine r_mul (by walk_at "S_int") (by walk_at "S_int") (by walk_at "S_nn") ?_); intro _ _))
  k_with "S_enterC" => ((refine' code_defCG ?Q13Xa ?Q13Xb ?Q13Xc ?Q13Xd ?Q13Xe ?Q13Xf ?Q13Xg ?Q13Xh ?Q13Xi ?Q13Xj ?Q13Xk ?Q13Xl ?Q13Xm ?Q13Xn ?_ ?Q13Xo ?Q13Xp ?Q13Xq; (case Q13Xf => exact rfl); (case Q13Xg => exact rfl); (case Q13Xh => assumption); (case Q13Xa => k_asm); (case Q13Xb => k_asm); (case Q13Xc => k_asm); (case Q13Xd => k_asm); (case Q13Xe => k_asm); (case Q13Xi => k_is); (case Q13Xj => k_is); (case Q13Xk => ktr_room); (case Q13Xl => exact BindsTo.of_eq rfl); (case Q13Xm => rfl); (case Q13Xn => decide); (case Q13Xo => exact rfl); (case Q13Xp => exact rfl); (case Q13Xq => exact rfl); k_whole; intro Z13Xj Z13Xd Z13Xk Z13Xo Z13Xi Z13Xc Z13Xb Z13Xe Z13Xh Z13Xa Z13Xg Z13Xf Z13Xm Z13Xl Z13Xn; (try dsimp only [List.map_nil, List.map_cons] at Z13Xl); (try k_lt Z13Xm); k_cells Z13Xh; (try simp only [List.cons_append, List.nil_append] at Z13Xe); (try dsimp only); (try k_lift Z13Xa); (try k_fold)))
  k_with "S_lcs" => ((k_here; k_dflt (refine ListComp_S (_F₀ := by k_asm) (by rfl) (by decide) (by rfl) (by decide) (by rfl) ?_)))
  k_with "S_lit" => (first | (with_reducible exact lit_dots) | (with_reducible exact lit_empty) | (with_reducible exact lit34) | (with_reducible exact lit9234) | (with_reducible exact lit92) | (with_reducible exact lit10) | (with_reducible exact lit38) | (with_reducible exact lit59) | (with_reducible exact lit60) | (with_reducible exact lit62) | (with_reducible exact lit13) | (with_reducible exact lit9) | (with_reducible exact litamp) | (with_reducible exact litlt) | (with_reducible exact litgt) | (with_reducible exact litquot) | (with_reducible rfl))
  k_with "S_sum" => (assumption)
  k_with "eval ListComp" => (walk_at "S_lcs")
  k_with "compareOp In str str" => ((k_here; k_dflt (first | refine r_inF (by assumption) ?_ | refine r_inT (by walk_at "S_lit") (by assumption) ?_)))
  trivial
theorem con_written {w : World} {p loose mean mg mb} (G : Addr) (x mk f0 f1 f2 : List Nat) (tx tm t1 t2 t3 : Tok) (hx : x.length ≤ 9) (hf0 : f0.length ≤ 5) (hf1 : f1.length ≤ 5) (hf2 : f2.length ≤ 5)
    (hmk : ∀ c ∈ x, c ∈ mk → c = 38 ∨ c = 60 ∨ c = 62 ∨ c = 34 ∨ c = 13 ∨ c = 10 ∨ c = 9) :
    MCon 109 107 4 Challenge.pw_sc0056_02 w (hd.heap_1 w.params) p loose mean mg mb 120 [.str (S x) tx, .str (S mk) tm, .ref G] [(G, { cls := .type "tuple", data := .seq #[.str (S f0) t1, .str (S f1) t2, .str (S f2) t3] })]
      (fun v post => (∃ t, v = .str (S (x.flatMap (wrL mk f0 f1 f2))) t) ∧ post = [(G, { cls := .type "tuple", data := .seq #[.str (S f0) t1, .str (S f1) t2, .str (S f2) t3] })]) := by
  have hsum : ((x.map (wrL mk f0 f1 f2)).map (·.length)).sum + (x.map (wrL mk f0 f1 f2)).length ≤ 1000000 := by
    have := sum_le (f := wrL mk f0 f1 f2) (B := 7) (wrL_len hf0 hf1 hf2) x
    rw [List.length_map]; omega
  dsimp only [MCon]
  intros
  rename_i hret
  k_dflt (walk_at "S_enterC")
  (try clear sfl)
  k_steps
  rename News _ _ _ _ => N1
  rename Fr _ _ _ _ => F1
  refine ⟨x, _, _, rfl, rfl, F1, N1, by omega, fun s2 hs2 => ?_⟩
  obtain ⟨h9, rfl⟩ := hs2
  refine rest_ind (J := fun i ys news => StrsAre ys ((x.take i).map (wrL mk f0 f1 f2)) ∧ news = _) ?step ?fin _ 0 _ _ (Nat.zero_add _) ⟨.nil, rfl⟩
  case step =>
    intro i v ys news I oI C oC D m2 h tk E9 hi hP hJ hC hx2 F2 N2 off ne
    obtain ⟨hJ1, hJ2⟩ := hJ
    subst hJ2
    obtain ⟨c, u, hc, rfl⟩ := hP
    have hc' : x[i]? = some c := by simpa [S] using hc
    have hcx : c ∈ x := List.mem_of_getElem? hc'
    simp only [LCg.Off3, and_true] at off
    obtain ⟨⟨_, _, _⟩, ⟨_, _, _⟩, ⟨_, _, _⟩, _, _, _⟩ := off
    have hJ3 : ∀ t, StrsAre (ys ++ [Value.str (S (wrL mk f0 f1 f2 c)) t]) ((x.take (i + 1)).map (wrL mk f0 f1 f2)) := by
      intro t
      rw [List.take_add_one, hc', List.map_append]
      exact hJ1.append (.cons _ t .nil)
    by_cases hm : c ∈ mk
    · have hx3 : m2 (PySem.Str.ofString "sign") = some (Value.str (S [c]) u) := hx2
      clear hx2
      rcases hmk c hcx hm with rfl | rfl | rfl | rfl | rfl | rfl | rfl
      · have e : wrL mk f0 f1 f2 38 = [38] ++ [97, 109, 112] ++ [59] := by rw [wrL, if_pos hm]; rfl
        rw [e] at hJ3
        rw [← lit38] at hx3
        k_steps
        exact hJ3 _
      · have e : wrL mk f0 f1 f2 60 = [38] ++ [108, 116] ++ [59] := by rw [wrL, if_pos hm]; rfl
        rw [e] at hJ3
        rw [← lit60] at hx3
        k_steps
        exact hJ3 _
      · have e : wrL mk f0 f1 f2 62 = [38] ++ [103, 116] ++ [59] := by rw [wrL, if_pos hm]; rfl
        rw [e] at hJ3
        rw [← lit62] at hx3
        k_steps
        exact hJ3 _
      · have e : wrL mk f0 f1 f2 34 = [38] ++ [113, 117, 111, 116] ++ [59] := by rw [wrL, if_pos hm]; rfl
        rw [e] at hJ3
        rw [← lit34] at hx3
        k_steps
        exact hJ3 _
      · have e : wrL mk f0 f1 f2 13 = [38] ++ f0 ++ [59] := by rw [wrL, if_pos hm]; rfl
        rw [e] at hJ3
        rw [← lit13] at hx3
        k_steps
        exact hJ3 _
      · have e : wrL mk f0 f1 f2 10 = [38] ++ f1 ++ [59] := by rw [wrL, if_pos hm]; rfl
        rw [e] at hJ3
        rw [← lit10] at hx3
        k_steps
        exact hJ3 _
      · have e : wrL mk f0 f1 f2 9 = [38] ++ f2 ++ [59] := by rw [wrL, if_pos hm]; rfl
        rw [e] at hJ3
        rw [← lit9] at hx3
        k_steps
        exact hJ3 _
    · have hx3 : m2 (PySem.Str.ofString "sign") = some (Value.str (S [c]) u) := hx2
      clear hx2
      have e : wrL mk f0 f1 f2 c = [c] := by rw [wrL, if_neg hm]
      rw [e] at hJ3
      k_steps
      exact hJ3 _
  case fin =>
    rintro ys news ⟨hJ1, hJ2⟩
    subst hJ2
    rw [List.take_length] at hJ1
    k_steps
    rename News _ _ _ _ => N9
    exact hret _ [(G, { cls := .type "tuple", data := .seq #[.str (S f0) t1, .str (S f1) t2, .str (S f2) t3] })] _ _ (by assumption) (fun q hq => by rw [List.mem_singleton.mp hq]; exact N9 _ (by k_mem)) (mc_kept (by assumption) (by assumption)) ⟨⟨_, by rw [List.flatMap_def]⟩, rfl⟩
end
section
local macro_rules | `(tactic| walk_at "zz0") => `(tactic| fail)
local macro_rules | `(tactic| walk_at "zz1") => `(tactic| fail)
local macro_rules | `(tactic| walk_at "zz2") => `(tactic| fail)
example : True := by
  k_with_none
  w_top off
  k_with "olt" => (first | assumption | ((fail_if_success refine oM ?_); refine oL ?_; k_extra "ole") | k_extra "olh")
  k_with "olh" => (refine oH (by assumption) (by k_extra "ole"))
  k_with "ole" => (first | exact Nat.le_refl _ | assumption | exact oB | ((first | refine oA ?_ | refine oA2 ?_ | refine oA3 ?_); k_extra "ocl") | (refine oS ?_; k_extra "ole") | (refine Nat.le_of_lt ?_; (first | assumption | k_extra "olh")) | exact oE)
  k_with "olt2" => (first | k_extra "oas" | ((fail_if_success refine oM ?_); refine oL ?_; k_extra "ole2") | k_extra "olh2")
  k_with "olh2" => (refine oH (by k_extra "oas") (by k_extra "ole2"))
  k_with "ole2" => (first | exact Nat.le_refl _ | k_extra "oas" | exact oB | ((first | refine oA ?_ | refine oA2 ?_ | refine oA3 ?_); k_extra "ocl") | (refine oS ?_; k_extra "ole2") | (refine Nat.le_of_lt ?_; (first | k_extra "oas" | k_extra "olh2")) | exact oE)
  k_with "opu" => (first | exact oB | exact Nat.le_refl _ | (refine oS ?_; k_extra "opu"))
  k_with "olt0" => (refine oL ?_; k_extra "opu")
  k_with "one" => (first | (refine Nat.ne_of_gt ?_; (fail_if_success refine oM ?_); k_extra "olt0") | (refine Nat.ne_of_lt ?_; (fail_if_success refine oM ?_); k_extra "olt0") | exact Ne.symm (by assumption) | (refine Nat.ne_of_gt ?_; (fail_if_success refine oM ?_); k_extra "oas") | (refine Nat.ne_of_lt ?_; (fail_if_success refine oM ?_); k_extra "oas") | (refine Nat.ne_of_gt ?_; (fail_if_success refine oM ?_); k_extra "odd") | (refine Nat.ne_of_lt ?_; (fail_if_success refine oM ?_); k_extra "odd") | (refine Nat.ne_of_gt ?_; (fail_if_success refine oM ?_); k_extra "olt") | (refine Nat.ne_of_lt ?_; (fail_if_success refine oM ?_); k_extra "olt") | (refine Nat.ne_of_gt ?_; (fail_if_success refine oM ?_); k_extra "olt2") | (refine Nat.ne_of_lt ?_; (fail_if_success refine oM ?_); k_extra "olt2") | decide)
  k_with "ol1" => (first | ((fail_if_success refine oM ?_); first | k_extra "oas" | k_extra "olt0" | k_extra "odd" | k_extra "olt" | k_extra "olt2") | k_extra "ocl" | exact oT0 | exact oT5)
  k_with "oe1" => (first | ((fail_if_success refine oN ?_); first | k_extra "oas" | k_extra "opu" | k_extra "ole" | k_extra "ole2" | exact oE (by k_extra "oas")) | k_extra "ocl" | k_extra "olit" | k_extra "oas")
  k_with "olit" => (first | exact oT4 | exact oP | exact oP2 | exact oT1 | exact oT2 | exact oT3 | exact oQ5 | exact oQ1 | exact oQ2 | exact oQ3 | exact oQ4 | exact oQ6 | exact oD)
  k_with "ocl" => (with_unfolding_all exact Nat.le_of_ble_eq_true rfl)
  k_with "oas" => (first | assumption | exact oa1 | exact ob1 | exact oa2 | exact ob2 | exact oa3 | exact ob3 | exact oa4 | exact ob4 | exact oa5 | exact ob5 | exact oa6 | exact ob6 | exact oa7 | exact ob7)
  k_with "odd" => (first | exact oa1 ob7 | exact oa2 ob7 | exact oa3 ob7 | exact oa4 ob7 | exact oa5 ob7 | exact oa6 ob7 | exact oa7 ob7 | exact oa1 (ob7 ob7) | exact oa2 (ob7 ob7) | exact oa3 (ob7 ob7) | exact oa4 (ob7 ob7) | exact oa5 (ob7 ob7) | exact oa6 (ob7 ob7) | exact oa7 (ob7 ob7) | exact ob1 ob7 | exact ob2 ob7 | exact ob3 ob7 | exact ob4 ob7 | exact ob5 ob7 | exact ob6 ob7 | exact ob7 ob7)
  k_with "oin" => (first | decide | exact oI1 | exact oI3 | exact oI2 (by k_extra "oas"))
  k_with "om" => (with_reducible first | (first | assumption | ((fail_if_success fail_if_success refine oXn ?_); k_extra "one") | ((fail_if_success fail_if_success refine oXl ?_); k_extra "ol1") | ((fail_if_success fail_if_success refine oXe ?_); k_extra "oe1") | k_extra "oin") | fail)
  k_with "S_fit" => (first | omega | ((simp only [S_len, List.length_append, List.length_cons, List.length_nil, List.length_take, List.length_drop, dots, PySem.sizeLine_eq]); omega))
  k_with "call builtin:len" => (((with_reducible show wpAny _ _ (call (Value.builtin "len") [Value.str (S _) _]) _ _ _); refine r_len (by walk_at "S_fit") ?_))
  k_with "call builtin:str.startswith" => (((with_reducible show wpAny _ _ (call (Value.builtin "str.startswith") [Value.str (S _) _, Value.str (S _) _]) _ _ _); refine r_starts ?_))
  k_with "call builtin:str.endswith" => (((with_reducible show wpAny _ _ (call (Value.builtin "str.endswith") [Value.str (S _) _, Value.str (S _) _]) _ _ _); refine r_ends ?_))
  k_with "truthy str" => (((with_reducible show wpAny _ _ (truthy (Value.str (S _) _)) _ _ _); refine r_truthy (by walk_at "S_fit") ?_))
  k_with "exec For Name Name cons nil" => ((k_here; (rename Fr _ _ _ _ => Z6Xa); (with_unfolding_all refine' For_invVF Z6Xa ?Q6Xa ?Q6Xb ?_; (case Q6Xa => exact rfl); (case Q6Xb => exact rfl); k_whole)))
  k_with "pyIter ref" => (((with_reducible show wpAny _ _ (pyIter (Value.ref _)) (fun it s₂ => LoopAtV _ _ _ _ _ _ _ _ _ it s₂) _ _); k_listUnr))
  k_with "S_enter" => ((refine' code_defG (news := []) ?Q8Xa ?Q8Xb ?Q8Xc ?Q8Xd ?Q8Xe ?Q8Xf ?Q8Xg ?Q8Xh ?Q8Xi ?Q8Xj ?Q8Xk ?Q8Xl ?Q8Xm ?_ ?Q8Xn ?Q8Xo ?Q8Xp ?Q8Xq; (case Q8Xf => exact rfl); (case Q8Xg => exact rfl); (case Q8Xh => assumption); (case Q8Xa => k_asm); (case Q8Xb => k_asm); (case Q8Xc => k_asm); (case Q8Xd => exact News.nil); (case Q8Xe => k_asm); (case Q8Xi => k_is); (case Q8Xj => k_is); (case Q8Xk => ktr_room); (case Q8Xl => exact BindsTo.of_eq rfl); (case Q8Xq => decide); (case Q8Xm => exact locs rfl); (case Q8Xn => exact rfl); (case Q8Xo => exact rfl); (case Q8Xp => exact rfl); k_whole; intro Z8Xh Z8Xd Z8Xi Z8Xc Z8Xb Z8Xe Z8Xa Z8Xg Z8Xf Z8Xj; (try dsimp only [List.map_nil] at Z8Xj); (try dsimp only); (try k_lift Z8Xa); (try k_fold)))
  k_with "S_look" => (first | exact rfl | assumption | exact (if_pos rfl) | (refine (if_neg (by decide)).trans ?_; walk_at "S_look"))
  k_with "eval Name" => ((k_here; k_dflt (refine' nameX_L ?QaXa ?QaXb ?_ ?QaXc ?QaXd; (case QaXa => k_asm); (case QaXc => rfl); (case QaXd => rfl); (case QaXb => walk_at "S_look"); k_whole)))
  k_with "S_lit" => (first | (with_reducible exact lit_dots) | (with_reducible rfl))
  k_with "S_nn" => (first | omega | ((simp only [List.length_append, List.length_cons, List.length_nil, List.length_take, List.length_drop, dots] at *); omega))
  k_with "binaryOp Add str str" => (((with_reducible show wpAny _ _ (binaryOp _ (Value.str _ _) (Value.str _ _)) _ _ _); k_dflt (refine r_add (by walk_at "S_lit") (by walk_at "S_lit") (by walk_at "S_fit") ?_); intro _ _))
  k_with "subscriptTail Name Slice str ref" => (((with_reducible show wpAny _ _ (subscriptTail _ (Expr.Slice none (some _) none _) (Value.str (S _) _) _) _ _ _); (with_reducible rename Fr _ _ _ _ => ZeXa); (with_reducible rename News _ _ _ _ => ZeXb); (refine r_sliceTo (s := ⟨_, _, _, _, _⟩) ZeXa ZeXb (by walk_at "S_nn") (by walk_at "S_fit") ?_); intro _ _ _ _ _))
  k_with "subscriptTail Name Slice str ref" => (((with_reducible show wpAny _ _ (subscriptTail _ (Expr.Slice (some _) none none _) (Value.str (S _) _) _) _ _ _); (with_reducible rename Fr _ _ _ _ => ZfXa); (with_reducible rename News _ _ _ _ => ZfXb); (refine r_sliceFrom (s := ⟨_, _, _, _, _⟩) ZfXa ZfXb (by walk_at "S_nn") (by walk_at "S_fit") ?_); intro _ _ _ _ _))
  k_with "exec For Name Call cons nil" => ((k_here; (rename Fr _ _ _ _ => ZgXa); (with_unfolding_all refine' For_invVF ZgXa ?QgXa ?QgXb ?_; (case QgXa => exact rfl); (case QgXb => exact rfl); k_whole)))
  k_with "S_use" => ((refine' pcon_use ?QhXa ?QhXb ?QhXc ?QhXd ?QhXe ?QhXf ?QhXg ?QhXh ?_; (case QhXb => k_asm); (case QhXc => k_asm); (case QhXd => k_asm); (case QhXe => k_asm); (case QhXa => walk_at "S_con"); (case QhXf => first | exact rfl | assumption); (case QhXg => ktr_room); (case QhXh => ktr_units)))
  k_with "call ref" => ((k_here; k_dflt (walk_at "S_use"); intro ZiXf ZiXd ZiXe ZiXb; (have ZiXa := Fr.keeps (by k_asm) ZiXb); (have ZiXc := News.grown (by k_asm) ZiXb); walk_at "S_back" <;> ((try dsimp only); (try k_fold))))
  k_with "pyIter ref" => (k_extra "S_loop")
  k_with "S_bool" => ((intro ZkXa; (rcases bool_or ZkXa with ⟨R8, R7⟩ | ⟨R8, R7⟩) <;> subst R7))
  k_with "call builtin:list.append" => ((k_here; (with_reducible show wpAny _ _ (call (Value.builtin _) [Value.ref _, _]) _ _ _); k_dflt (refine' append_K ?QlXa ?QlXb ?QlXc ?_ ?QlXd; (case QlXa => k_asm); (case QlXb => k_asm); (case QlXc => k_upd); (case QlXd => exact size_ok (k := 100000) (by omega) (by decide)); k_whole); intro ZlXc ZlXa ZlXb; (try k_sweep)))
  k_with "m_k_room" => (ktr_room)
  k_with "m_k_units" => (ktr_units)
  k_with "S_enterM" => ((refine' code_defG ?QoXa ?QoXb ?QoXc ?QoXd ?QoXe ?QoXf ?QoXg ?QoXh ?QoXi ?QoXj ?QoXk ?QoXl ?QoXm ?_ ?QoXn ?QoXo ?QoXp ?QoXq; (case QoXf => exact rfl); (case QoXg => exact rfl); (case QoXh => assumption); (case QoXa => k_asm); (case QoXb => k_asm); (case QoXc => k_asm); (case QoXd => k_asm); (case QoXe => k_asm); (case QoXi => k_is); (case QoXj => k_is); (case QoXk => ktr_room); (case QoXl => exact BindsTo.of_eq rfl); (case QoXq => decide); (case QoXm => exact locs rfl); (case QoXn => exact rfl); (case QoXo => exact rfl); (case QoXp => exact rfl); k_whole; intro ZoXh ZoXd ZoXi ZoXc ZoXb ZoXe ZoXa ZoXg ZoXf ZoXj; (try dsimp only [List.map_nil, List.map_cons] at ZoXj); (try dsimp only); (try k_lift ZoXa); (try k_fold)))
  k_with "callWith" => (((with_reducible show wpAny _ _ (callWith _ (Prod.fst _) (Prod.snd _) _ _) _ _ _); dsimp only))
  k_with "S_int" => (first | omega | decide | ((simp only [List.length_cons, List.length_nil, decide_eq_true_eq, decide_eq_false_iff_not, beq_iff_eq, beq_eq_false_iff_ne, ne_eq, Int.not_lt, Int.not_le] at *); omega))
  k_with "binaryOp FloorDiv int int" => (((with_reducible show wpAny _ _ (binaryOp _ (Value.int _ _) (Value.int _ _)) _ _ _); k_dflt (refine r_fdiv (by walk_at "S_int") (by walk_at "S_int") ?_); intro _ _))
  k_with "binaryOp Mod int int" => (((with_reducible show wpAny _ _ (binaryOp _ (Value.int _ _) (Value.int _ _)) _ _ _); k_dflt (refine r_fmod (by walk_at "S_int") ?_); intro _ _))
  k_with "S_item" => (((with_reducible show wpAny _ _ (subscriptTail _ _ (Value.str (S _) _) (Value.int _ _)) _ _ _); k_dflt (refine r_item (by walk_at "S_int") (by walk_at "S_int") (by walk_at "S_fit") ?_); intro _ _))
  k_with "subscriptTail Name BinOp str int" => (walk_at "S_item")
  k_with "subscriptTail Name Constant str int" => (walk_at "S_item")
  k_with "subscriptTail Name Name str int" => (walk_at "S_item")
  k_with "S_lit" => (first | (with_reducible exact lit_dots) | (with_reducible exact lit_empty) | (with_reducible exact lit34) | (with_reducible exact lit9234) | (with_reducible exact lit92) | (with_reducible exact lit10) | (with_reducible exact lit38) | (with_reducible exact lit59) | (with_reducible rfl))
  k_with "call builtin:str.replace" => (((with_reducible show wpAny _ _ (call (Value.builtin _) [Value.str (S _) _, Value.str _ _, Value.str _ _]) _ _ _); k_dflt (refine r_replace (by walk_at "S_lit") (by walk_at "S_lit") (by decide) (Nat.succ_ne_zero _) (Nat.succ_ne_zero _) (Nat.ne_of_lt (Nat.lt_succ_self _)) (by decide) (by walk_at "S_nn") ?_); intro _ _))
  k_with "call builtin:str.join" => ((k_here; (with_reducible show wpAny _ _ (call (Value.builtin _) [Value.str _ _, Value.ref _]) _ _ _); k_dflt (refine r_join (by walk_at "S_lit") (by walk_at "S_isl") (by walk_at "S_strs") (by walk_at "S_sum") ?_); intro _ _))
  k_with "S_isl" => (first | assumption | exact ⟨LCg.lst _, News.get (by k_asm) (by k_mem), rfl, _, rfl⟩ | is_list)
  k_with "S_strs" => (first | exact StrsAre.nil | assumption | (exact CharsAre.strs (by assumption)))
  k_with "binaryOp Mult str int" => (((with_reducible show wpAny _ _ (binaryOp _ (Value.str (S _) _) (Value.int _ _)) _ _ _); k_dflt (refine r_mul (by walk_at "S_int") (by walk_at "S_int") (by walk_at "S_nn") ?_); intro _ _))
  k_with "S_enterC" => ((refine' code_defCG ?Q13Xa ?Q13Xb ?Q13Xc ?Q13Xd ?Q13Xe ?Q13Xf ?Q13Xg ?Q13Xh ?Q13Xi ?Q13Xj ?Q13Xk ?Q13Xl ?Q13Xm ?Q13Xn ?_ ?Q13Xo ?Q13Xp ?Q13Xq; (case Q13Xf => exact rfl); (case Q13Xg => exact rfl); (case Q13Xh => assumption); (case Q13Xa => k_asm); (case Q13Xb => k_asm); (case Q13Xc => k_asm); (case Q13Xd => k_asm); (case Q13Xe => k_asm); (case Q13Xi => k_is); (case Q13Xj => k_is); (case Q13Xk => ktr_room); (case Q13Xl => exact BindsTo.of_eq rfl); (case Q13Xm => rfl); (case Q13Xn => decide); (case Q13Xo => exact rfl); (case Q13Xp => exact rfl); (case Q13Xq => exact rfl); k_whole; intro Z13Xj Z13Xd Z13Xk Z13Xo Z13Xi Z13Xc Z13Xb Z13Xe Z13Xh Z13Xa Z13Xg Z13Xf Z13Xm Z13Xl Z13Xn; (try dsimp only [List.map_nil, List.map_cons] at Z13Xl); (try k_lt Z13Xm); k_cells Z13Xh; (try simp only [List.cons_append, List.nil_append] at Z13Xe); (try dsimp only); (try k_lift Z13Xa); (try k_fold)))
  k_with "S_lcs" => ((k_here; k_dflt (refine ListComp_S (_F₀ := by k_asm) (by rfl) (by decide) (by rfl) (by decide) (by rfl) ?_)))
  k_with "S_lit" => (first | (with_reducible exact lit_dots) | (with_reducible exact lit_empty) | (with_reducible exact lit34) | (with_reducible exact lit9234) | (with_reducible exact lit92) | (with_reducible exact lit10) | (with_reducible exact lit38) | (with_reducible exact lit59) | (with_reducible exact lit60) | (with_reducible exact lit62) | (with_reducible exact lit13) | (with_reducible exact lit9) | (with_reducible exact litamp) | (with_reducible exact litlt) | (with_reducible exact litgt) | (with_reducible exact litquot) | (with_reducible rfl))
  k_with "S_sum" => (assumption)
  k_with "compareOp NotEq ref ref" => ((k_here; (with_reducible show wpAny _ _ (compareOp CmpOp.NotEq (Value.ref _) (Value.ref _)) _ _ _); k_dflt (refine' r_ne_strs ?Q17Xa ?Q17Xb ?Q17Xc ?Q17Xd ?Q17Xe ?Q17Xf ?Q17Xg ?_; (case Q17Xa => is_list); (case Q17Xb => is_list); (case Q17Xc => walk_at "S_strs"); (case Q17Xd => walk_at "S_strs"); (case Q17Xe => walk_at "S_ok8"); (case Q17Xf => walk_at "S_ok8"); (case Q17Xg => ke_room)); (walk_at "S_ne")))
  k_with "S_strs" => (first | exact StrsAre.nil | assumption | (exact CharsAre.strs (by assumption)))
  k_with "S_ok8" => (first | assumption | (intro Z19Xb Z19Xa; cases Z19Xa) | fail "ok8")
  k_with "S_ne" => (skip)
  k_with "call builtin:list.pop" => ((k_here; (with_reducible show wpAny _ _ (call (Value.builtin _) [Value.ref _]) _ _ _); k_dflt (refine' kr_pop ?Q1bXa ?Q1bXb ?Q1bXc ?Q1bXd ?_; (case Q1bXa => k_asm); (case Q1bXb => k_asm); (case Q1bXc => k_upd); (case Q1bXd => walk_at "S_size")); (intro Z1bXc Z1bXa Z1bXb)))
  k_with "S_size" => (((have Z1cXa := CharsAre.length (by assumption)); simp only [PySem.sizeLine_eq]; omega))
  trivial
theorem ok8_chars {p : List Nat} {c : Nat} (h : (p ++ [c]).all (· < 0x110000) = true) : Ok8 ((p ++ [c]).map fun x => [x]) := by
  intro x hx
  obtain ⟨y, hy, rfl⟩ := List.mem_map.mp hx
  have := List.all_eq_true.mp h y hy
  simpa using this
theorem nl_iff (c : Nat) : (S [c] == PySem.Str.ofString "\n") = decide (c = 10) := by
  have e : PySem.Str.ofString "\n" = S [10] := by rfl
  rw [e, S_beq]
  by_cases h : c = 10 <;> simp [h]
theorem con_rc {w : World} {p loose mean mg mb} (r : RP) (ok : r.Ok) (ln : Int) (tl : Tok) (pb : List Value) (kp : Nat) (us : List Value) (kl : Nat) (st : List Nat) (c : Nat) (tc : Tok) (hlf : CharsAre us st) (hl : st.length ≤ 1000)
    (h8 : (st ++ [c]).all (· < 0x110000) = true) :
    MCon 109 107 6 Challenge.pw_sc0056_02 w (hd.heap_1 w.params) p loose mean mg mb 42 [.ref r.aR] (rdr 153 w.params r ln tl pb kp (us ++ [.str (S [c]) tc]) kl)
      (fun v post => v = .str (S [c]) tc ∧ ∃ tl', post = rdr 153 w.params r (ln + if c = 10 then 1 else 0) tl' pb kp us (kl + 1)) := by
  obtain ⟨aP, aR, dR, aF, cF, aP2, aS, dS, aL, aC, t1, t2, t3, t4, t5, s0, s1, s2, s3, s4, s5, s6, oc, oC, vs, qt, q, pm, ctv⟩ := r
  obtain ⟨hd1, hd2, hd3, o1, o2, o3, o4, o5, o6, o7, o8, o9⟩ := ok
  dsimp only at hd1 hd2 hd3 o1 o2 o3 o4 o5 o6 o7 o8 o9
  have hS : StrsAre (us ++ [.str (S [c]) tc]) ((st ++ [c]).map fun x => [x]) := (hlf.append (.cons c tc .nil)).strs
  have h8' := ok8_chars h8
  have hne : (decide (((st ++ [c]).map fun x => [x]) = []) : Bool) = false := by simp
  dsimp only [MCon, rdr, rdr7]
  intros
  rename_i hret
  k_dflt (walk_at "S_enterM")
  (try clear sfl)
  k_steps
  · rename (S [c] == PySem.Str.ofString "\n") = true => hc
    rw [nl_iff] at hc
    have hc := of_decide_eq_true hc
    rw [if_pos hc] at hret
    rename News _ _ _ _ => N9
    have N9 := news_tail N9
    exact hret _ _ _ _ (by assumption) N9 (mc_kept (by assumption) (by assumption)) ⟨rfl, _, rfl⟩
  · rename (S [c] == PySem.Str.ofString "\n") = false => hc
    rw [nl_iff] at hc
    have hc := of_decide_eq_false hc
    rw [if_neg hc, Int.add_zero] at hret
    rename News _ _ _ _ => N9
    have N9 := news_tail N9
    exact hret _ _ _ _ (by assumption) N9 (mc_kept (by assumption) (by assumption)) ⟨rfl, _, rfl⟩
theorem con_rc0 {w : World} {p loose mean mg mb} (r : RP) (ok : r.Ok) (ln : Int) (tl : Tok) (pb : List Value) (kp : Nat) (kl : Nat) :
    MCon 109 107 6 Challenge.pw_sc0056_02 w (hd.heap_1 w.params) p loose mean mg mb 42 [.ref r.aR] (rdr 153 w.params r ln tl pb kp [] kl)
      (fun v post => (∃ t, v = .str (S []) t) ∧ post = rdr 153 w.params r ln tl pb kp [] kl) := by
  obtain ⟨aP, aR, dR, aF, cF, aP2, aS, dS, aL, aC, t1, t2, t3, t4, t5, s0, s1, s2, s3, s4, s5, s6, oc, oC, vs, qt, q, pm, ctv⟩ := r
  obtain ⟨hd1, hd2, hd3, o1, o2, o3, o4, o5, o6, o7, o8, o9⟩ := ok
  dsimp only at hd1 hd2 hd3 o1 o2 o3 o4 o5 o6 o7 o8 o9
  dsimp only [MCon, rdr, rdr7]
  intros
  rename_i hret
  k_dflt (walk_at "S_enterM")
  (try clear sfl)
  k_steps
  
  · rename News _ _ _ _ => N9
    have N9 := news_tail N9
    exact hret _ _ _ _ (by assumption) N9 (mc_kept (by assumption) (by assumption)) ⟨⟨_, congrArg (Value.str · _) lit_empty⟩, rfl⟩
end
section
example : True := by
  k_with_none
  w_top off
  k_with "olt" => (first | assumption | ((fail_if_success refine oM ?_); refine oL ?_; k_extra "ole") | k_extra "olh")
  k_with "olh" => (refine oH (by assumption) (by k_extra "ole"))
  k_with "ole" => (first | exact Nat.le_refl _ | assumption | exact oB | ((first | refine oA ?_ | refine oA2 ?_ | refine oA3 ?_); k_extra "ocl") | (refine oS ?_; k_extra "ole") | (refine Nat.le_of_lt ?_; (first | assumption | k_extra "olh")) | exact oE)
  k_with "olt2" => (first | k_extra "oas" | ((fail_if_success refine oM ?_); refine oL ?_; k_extra "ole2") | k_extra "olh2")
  k_with "olh2" => (refine oH (by k_extra "oas") (by k_extra "ole2"))
  k_with "ole2" => (first | exact Nat.le_refl _ | k_extra "oas" | exact oB | ((first | refine oA ?_ | refine oA2 ?_ | refine oA3 ?_); k_extra "ocl") | (refine oS ?_; k_extra "ole2") | (refine Nat.le_of_lt ?_; (first | k_extra "oas" | k_extra "olh2")) | exact oE)
  k_with "opu" => (first | exact oB | exact Nat.le_refl _ | (refine oS ?_; k_extra "opu"))
  k_with "olt0" => (refine oL ?_; k_extra "opu")
  k_with "one" => (first | (refine Nat.ne_of_gt ?_; (fail_if_success refine oM ?_); k_extra "olt0") | (refine Nat.ne_of_lt ?_; (fail_if_success refine oM ?_); k_extra "olt0") | exact Ne.symm (by assumption) | (refine Nat.ne_of_gt ?_; (fail_if_success refine oM ?_); k_extra "oas") | (refine Nat.ne_of_lt ?_; (fail_if_success refine oM ?_); k_extra "oas") | (refine Nat.ne_of_gt ?_; (fail_if_success refine oM ?_); k_extra "odd") | (refine Nat.ne_of_lt ?_; (fail_if_success refine oM ?_); k_extra "odd") | (refine Nat.ne_of_gt ?_; (fail_if_success refine oM ?_); k_extra "olt") | (refine Nat.ne_of_lt ?_; (fail_if_success refine oM ?_); k_extra "olt") | (refine Nat.ne_of_gt ?_; (fail_if_success refine oM ?_); k_extra "olt2") | (refine Nat.ne_of_lt ?_; (fail_if_success refine oM ?_); k_extra "olt2") | decide)
  k_with "ol1" => (first | ((fail_if_success refine oM ?_); first | k_extra "oas" | k_extra "olt0" | k_extra "odd" | k_extra "olt" | k_extra "olt2") | k_extra "ocl" | exact oT0 | exact oT5)
  k_with "oe1" => (first | ((fail_if_success refine oN ?_); first | k_extra "oas" | k_extra "opu" | k_extra "ole" | k_extra "ole2" | exact oE (by k_extra "oas")) | k_extra "ocl" | k_extra "olit" | k_extra "oas")
  k_with "olit" => (first | exact oT4 | exact oP | exact oP2 | exact oT1 | exact oT2 | exact oT3 | exact oQ5 | exact oQ1 | exact oQ2 | exact oQ3 | exact oQ4 | exact oQ6 | exact oD)
  k_with "ocl" => (with_unfolding_all exact Nat.le_of_ble_eq_true rfl)
  k_with "oas" => (first | assumption | exact oa1 | exact ob1 | exact oa2 | exact ob2 | exact oa3 | exact ob3 | exact oa4 | exact ob4 | exact oa5 | exact ob5 | exact oa6 | exact ob6 | exact oa7 | exact ob7)
  k_with "odd" => (first | exact oa1 ob7 | exact oa2 ob7 | exact oa3 ob7 | exact oa4 ob7 | exact oa5 ob7 | exact oa6 ob7 | exact oa7 ob7 | exact oa1 (ob7 ob7) | exact oa2 (ob7 ob7) | exact oa3 (ob7 ob7) | exact oa4 (ob7 ob7) | exact oa5 (ob7 ob7) | exact oa6 (ob7 ob7) | exact oa7 (ob7 ob7) | exact ob1 ob7 | exact ob2 ob7 | exact ob3 ob7 | exact ob4 ob7 | exact ob5 ob7 | exact ob6 ob7 | exact ob7 ob7)
  k_with "oin" => (first | decide | exact oI1 | exact oI3 | exact oI2 (by k_extra "oas"))
  k_with "om" => (with_reducible first | (first | assumption | ((fail_if_success fail_if_success refine oXn ?_); k_extra "one") | ((fail_if_success fail_if_success refine oXl ?_); k_extra "ol1") | ((fail_if_success fail_if_success refine oXe ?_); k_extra "oe1") | k_extra "oin") | fail)
  k_with "S_fit" => (first | omega | ((simp only [S_len, List.length_append, List.length_cons, List.length_nil, List.length_take, List.length_drop, dots, PySem.sizeLine_eq]); omega))
  k_with "call builtin:len" => (((with_reducible show wpAny _ _ (call (Value.builtin "len") [Value.str (S _) _]) _ _ _); refine r_len (by walk_at "S_fit") ?_))
  k_with "call builtin:str.startswith" => (((with_reducible show wpAny _ _ (call (Value.builtin "str.startswith") [Value.str (S _) _, Value.str (S _) _]) _ _ _); refine r_starts ?_))
  k_with "call builtin:str.endswith" => (((with_reducible show wpAny _ _ (call (Value.builtin "str.endswith") [Value.str (S _) _, Value.str (S _) _]) _ _ _); refine r_ends ?_))
  k_with "truthy str" => (((with_reducible show wpAny _ _ (truthy (Value.str (S _) _)) _ _ _); refine r_truthy (by walk_at "S_fit") ?_))
  k_with "exec For Name Name cons nil" => ((k_here; (rename Fr _ _ _ _ => Z6Xa); (with_unfolding_all refine' For_invVF Z6Xa ?Q6Xa ?Q6Xb ?_; (case Q6Xa => exact rfl); (case Q6Xb => exact rfl); k_whole)))
  k_with "pyIter ref" => (((with_reducible show wpAny _ _ (pyIter (Value.ref _)) (fun it s₂ => LoopAtV _ _ _ _ _ _ _ _ _ it s₂) _ _); k_listUnr))
  k_with "S_enter" => ((refine' code_defG (news := []) ?Q8Xa ?Q8Xb ?Q8Xc ?Q8Xd ?Q8Xe ?Q8Xf ?Q8Xg ?Q8Xh ?Q8Xi ?Q8Xj ?Q8Xk ?Q8Xl ?Q8Xm ?_ ?Q8Xn ?Q8Xo ?Q8Xp ?Q8Xq; (case Q8Xf => exact rfl); (case Q8Xg => exact rfl); (case Q8Xh => assumption); (case Q8Xa => k_asm); (case Q8Xb => k_asm); (case Q8Xc => k_asm); (case Q8Xd => exact News.nil); (case Q8Xe => k_asm); (case Q8Xi => k_is); (case Q8Xj => k_is); (case Q8Xk => ktr_room); (case Q8Xl => exact BindsTo.of_eq rfl); (case Q8Xq => decide); (case Q8Xm => exact locs rfl); (case Q8Xn => exact rfl); (case Q8Xo => exact rfl); (case Q8Xp => exact rfl); k_whole; intro Z8Xh Z8Xd Z8Xi Z8Xc Z8Xb Z8Xe Z8Xa Z8Xg Z8Xf Z8Xj; (try dsimp only [List.map_nil] at Z8Xj); (try dsimp only); (try k_lift Z8Xa); (try k_fold)))
  k_with "S_look" => (first | exact rfl | assumption | exact (if_pos rfl) | (refine (if_neg (by decide)).trans ?_; walk_at "S_look"))
  k_with "eval Name" => ((k_here; k_dflt (refine' nameX_L ?QaXa ?QaXb ?_ ?QaXc ?QaXd; (case QaXa => k_asm); (case QaXc => rfl); (case QaXd => rfl); (case QaXb => walk_at "S_look"); k_whole)))
  k_with "S_lit" => (first | (with_reducible exact lit_dots) | (with_reducible rfl))
  k_with "S_nn" => (first | omega | ((simp only [List.length_append, List.length_cons, List.length_nil, List.length_take, List.length_drop, dots] at *); omega))
  k_with "binaryOp Add str str" => (((with_reducible show wpAny _ _ (binaryOp _ (Value.str _ _) (Value.str _ _)) _ _ _); k_dflt (refine r_add (by walk_at "S_lit") (by walk_at "S_lit") (by walk_at "S_fit") ?_); intro _ _))
  k_with "subscriptTail Name Slice str ref" => (((with_reducible show wpAny _ _ (subscriptTail _ (Expr.Slice none (some _) none _) (Value.str (S _) _) _) _ _ _); (with_reducible rename Fr _ _ _ _ => ZeXa); (with_reducible rename News _ _ _ _ => ZeXb); (refine r_sliceTo (s := ⟨_, _, _, _, _⟩) ZeXa ZeXb (by walk_at "S_nn") (by walk_at "S_fit") ?_); intro _ _ _ _ _))
  k_with "subscriptTail Name Slice str ref" => (((with_reducible show wpAny _ _ (subscriptTail _ (Expr.Slice (some _) none none _) (Value.str (S _) _) _) _ _ _); (with_reducible rename Fr _ _ _ _ => ZfXa); (with_reducible rename News _ _ _ _ => ZfXb); (refine r_sliceFrom (s := ⟨_, _, _, _, _⟩) ZfXa ZfXb (by walk_at "S_nn") (by walk_at "S_fit") ?_); intro _ _ _ _ _))
  k_with "exec For Name Call cons nil" => ((k_here; (rename Fr _ _ _ _ => ZgXa); (with_unfolding_all refine' For_invVF ZgXa ?QgXa ?QgXb ?_; (case QgXa => exact rfl); (case QgXb => exact rfl); k_whole)))
  k_with "S_use" => ((refine' pcon_use ?QhXa ?QhXb ?QhXc ?QhXd ?QhXe ?QhXf ?QhXg ?QhXh ?_; (case QhXb => k_asm); (case QhXc => k_asm); (case QhXd => k_asm); (case QhXe => k_asm); (case QhXa => walk_at "S_con"); (case QhXf => first | exact rfl | assumption); (case QhXg => ktr_room); (case QhXh => ktr_units)))
  k_with "call ref" => ((k_here; k_dflt (walk_at "S_use"); intro ZiXf ZiXd ZiXe ZiXb; (have ZiXa := Fr.keeps (by k_asm) ZiXb); (have ZiXc := News.grown (by k_asm) ZiXb); walk_at "S_back" <;> ((try dsimp only); (try k_fold))))
  k_with "pyIter ref" => (k_extra "S_loop")
  k_with "S_bool" => ((intro ZkXa; (rcases bool_or ZkXa with ⟨R8, R7⟩ | ⟨R8, R7⟩) <;> subst R7))
  k_with "call builtin:list.append" => ((k_here; (with_reducible show wpAny _ _ (call (Value.builtin _) [Value.ref _, _]) _ _ _); k_dflt (refine' append_K ?QlXa ?QlXb ?QlXc ?_ ?QlXd; (case QlXa => k_asm); (case QlXb => k_asm); (case QlXc => k_upd); (case QlXd => exact size_ok (k := 100000) (by omega) (by decide)); k_whole); intro ZlXc ZlXa ZlXb; (try k_sweep)))
  k_with "m_k_room" => (ktr_room)
  k_with "m_k_units" => (ktr_units)
  k_with "S_enterM" => ((refine' code_defG ?QoXa ?QoXb ?QoXc ?QoXd ?QoXe ?QoXf ?QoXg ?QoXh ?QoXi ?QoXj ?QoXk ?QoXl ?QoXm ?_ ?QoXn ?QoXo ?QoXp ?QoXq; (case QoXf => exact rfl); (case QoXg => exact rfl); (case QoXh => assumption); (case QoXa => k_asm); (case QoXb => k_asm); (case QoXc => k_asm); (case QoXd => k_asm); (case QoXe => k_asm); (case QoXi => k_is); (case QoXj => k_is); (case QoXk => ktr_room); (case QoXl => exact BindsTo.of_eq rfl); (case QoXq => decide); (case QoXm => exact locs rfl); (case QoXn => exact rfl); (case QoXo => exact rfl); (case QoXp => exact rfl); k_whole; intro ZoXh ZoXd ZoXi ZoXc ZoXb ZoXe ZoXa ZoXg ZoXf ZoXj; (try dsimp only [List.map_nil, List.map_cons] at ZoXj); (try dsimp only); (try k_lift ZoXa); (try k_fold)))
  k_with "callWith" => (((with_reducible show wpAny _ _ (callWith _ (Prod.fst _) (Prod.snd _) _ _) _ _ _); dsimp only))
  k_with "S_int" => (first | omega | decide | ((simp only [List.length_cons, List.length_nil, decide_eq_true_eq, decide_eq_false_iff_not, beq_iff_eq, beq_eq_false_iff_ne, ne_eq, Int.not_lt, Int.not_le] at *); omega))
  k_with "binaryOp FloorDiv int int" => (((with_reducible show wpAny _ _ (binaryOp _ (Value.int _ _) (Value.int _ _)) _ _ _); k_dflt (refine r_fdiv (by walk_at "S_int") (by walk_at "S_int") ?_); intro _ _))
  k_with "binaryOp Mod int int" => (((with_reducible show wpAny _ _ (binaryOp _ (Value.int _ _) (Value.int _ _)) _ _ _); k_dflt (refine r_fmod (by walk_at "S_int") ?_); intro _ _))
  k_with "S_item" => (((with_reducible show wpAny _ _ (subscriptTail _ _ (Value.str (S _) _) (Value.int _ _)) _ _ _); k_dflt (refine r_item (by walk_at "S_int") (by walk_at "S_int") (by walk_at "S_fit") ?_); intro _ _))
  k_with "subscriptTail Name BinOp str int" => (walk_at "S_item")
  k_with "subscriptTail Name Constant str int" => (walk_at "S_item")
  k_with "subscriptTail Name Name str int" => (walk_at "S_item")
  k_with "S_lit" => (first | (with_reducible exact lit_dots) | (with_reducible exact lit_empty) | (with_reducible exact lit34) | (with_reducible exact lit9234) | (with_reducible exact lit92) | (with_reducible exact lit10) | (with_reducible exact lit38) | (with_reducible exact lit59) | (with_reducible rfl))
  k_with "call builtin:str.replace" => (((with_reducible show wpAny _ _ (call (Value.builtin _) [Value.str (S _) _, Value.str _ _, Value.str _ _]) _ _ _); k_dflt (refine r_replace (by walk_at "S_lit") (by walk_at "S_lit") (by decide) (Nat.succ_ne_zero _) (Nat.succ_ne_zero _) (Nat.ne_of_lt (Nat.lt_succ_self _)) (by decide) (by walk_at "S_nn") ?_); intro _ _))
  k_with "call builtin:str.join" => ((k_here; (with_reducible show wpAny _ _ (call (Value.builtin _) [Value.str _ _, Value.ref _]) _ _ _); k_dflt (refine r_join (by walk_at "S_lit") (by walk_at "S_isl") (by walk_at "S_strs") (by walk_at "S_sum") ?_); intro _ _))
  k_with "S_isl" => (first | assumption | exact ⟨LCg.lst _, News.get (by k_asm) (by k_mem), rfl, _, rfl⟩ | is_list)
  k_with "S_strs" => (first | exact StrsAre.nil | assumption | (exact CharsAre.strs (by assumption)))
  k_with "binaryOp Mult str int" => (((with_reducible show wpAny _ _ (binaryOp _ (Value.str (S _) _) (Value.int _ _)) _ _ _); k_dflt (refine r_mul (by walk_at "S_int") (by walk_at "S_int") (by walk_at "S_nn") ?_); intro _ _))
  k_with "S_enterC" => ((refine' code_defCG ?Q13Xa ?Q13Xb ?Q13Xc ?Q13Xd ?Q13Xe ?Q13Xf ?Q13Xg ?Q13Xh ?Q13Xi ?Q13Xj ?Q13Xk ?Q13Xl ?Q13Xm ?Q13Xn ?_ ?Q13Xo ?Q13Xp ?Q13Xq; (case Q13Xf => exact rfl); (case Q13Xg => exact rfl); (case Q13Xh => assumption); (case Q13Xa => k_asm); (case Q13Xb => k_asm); (case Q13Xc => k_asm); (case Q13Xd => k_asm); (case Q13Xe => k_asm); (case Q13Xi => k_is); (case Q13Xj => k_is); (case Q13Xk => ktr_room); (case Q13Xl => exact BindsTo.of_eq rfl); (case Q13Xm => rfl); (case Q13Xn => decide); (case Q13Xo => exact rfl); (case Q13Xp => exact rfl); (case Q13Xq => exact rfl); k_whole; intro Z13Xj Z13Xd Z13Xk Z13Xo Z13Xi Z13Xc Z13Xb Z13Xe Z13Xh Z13Xa Z13Xg Z13Xf Z13Xm Z13Xl Z13Xn; (try dsimp only [List.map_nil, List.map_cons] at Z13Xl); (try k_lt Z13Xm); k_cells Z13Xh; (try simp only [List.cons_append, List.nil_append] at Z13Xe); (try dsimp only); (try k_lift Z13Xa); (try k_fold)))
  k_with "S_lcs" => ((k_here; k_dflt (refine ListComp_S (_F₀ := by k_asm) (by rfl) (by decide) (by rfl) (by decide) (by rfl) ?_)))
  k_with "S_lit" => (first | (with_reducible exact lit_dots) | (with_reducible exact lit_empty) | (with_reducible exact lit34) | (with_reducible exact lit9234) | (with_reducible exact lit92) | (with_reducible exact lit10) | (with_reducible exact lit38) | (with_reducible exact lit59) | (with_reducible exact lit60) | (with_reducible exact lit62) | (with_reducible exact lit13) | (with_reducible exact lit9) | (with_reducible exact litamp) | (with_reducible exact litlt) | (with_reducible exact litgt) | (with_reducible exact litquot) | (with_reducible rfl))
  k_with "S_sum" => (assumption)
  trivial
theorem fn_of_in {K : Frag} {f : Addr} {h : Heap} (e : fnIn K f = true) (X : K.In h) : ∃ o fd, h.get? f = some o ∧ o.data = .func fd := by
  unfold fnIn at e
  split at e
  · rename_i q; exact ⟨_, _, X _ _ q, rfl⟩
  · cases e
theorem rdr_le {l P r ln tl pb kp lf kl} (ok : RP.Ok r) : ∀ a ∈ (rdr l P r ln tl pb kp lf kl).map (·.1), @LE.le Nat _ a r.aP := by
  obtain ⟨hd1, hd2, hd3, o1, o2, o3, o4, o5, o6, o7, o8, o9⟩ := ok
  intro a ha
  simp only [rdr, rdr7, List.map_cons, List.map_nil, List.mem_cons, List.not_mem_nil, or_false] at ha
  rcases ha with rfl | rfl | rfl | rfl | rfl | rfl | rfl | rfl | rfl | rfl <;> omega
theorem use_rc {w : World} {p loose mean mg mb} (r : RP) (ok : r.Ok) (dp un : Nat) (gd : Option (List Code)) (cn : PySem.Str) (cs : Scope) (a : Addr) (ccd : Value) (cl : List (PySem.Str × Addr)) (outer : List Env) (A₀ : Around) (base h₀ : Heap) (L : Addr) (m : PySem.Str → Option Value) (s : Shared) (Q E : Value → Shared → Prop)
    (own : List (Addr × Obj)) (ln : Int) (tl : Tok) (pb : List Value) (kp : Nat) (us : List Value) (kl : Nat) (st : List Nat) (c : Nat) (tc : Tok) (hlf : CharsAre us st) (hl : st.length ≤ 1000) (h8 : (st ++ [c]).all (· < 0x110000) = true)
    (hB : Below A₀ base outer h₀) (hF : Fr h₀ L s.heap m) (hX : (hd.heap_1 w.params).In h₀) (hT : Top p loose mean mg mb h₀) (hk : cs.kind = .function) (hr : dp + 6 < recursionLimit) (hu : un + 16 * 6 < cLine) (hC : CodeHd base 109 107)
    (hN : News h₀ L s.heap (own ++ rdr 153 w.params r ln tl pb kp (us ++ [.str (S [c]) tc]) kl)) (ho : ∀ p ∈ own, @LT.lt Nat _ r.aP p.1)
    (h : ∀ h' tk' tl', Fr h₀ L h' m → News h₀ L h' (own ++ rdr 153 w.params r (ln + if c = 10 then 1 else 0) tl' pb kp us (kl + 1)) → Q (.str (S [c]) tc) { s with heap := h', toks := tk' }) :
    codeAny (model Challenge.pw_sc0056_02 w) (ktrTop dp un gd cn cs L a ccd cl outer) (.call (.ref 42) ⟨[.ref r.aR], []⟩) (fun r s' => match r with | .ok (.ret v) => Q v s' | .ok _ => False | .error e => E e s') s :=
  con_rc r ok ln tl pb kp us kl st c tc hlf hl h8 dp un gd cn cs a ccd cl outer A₀ base h₀ L m s Q E hB hF hX hT hk hr hu hC (fun q hq => hN q (List.mem_append_right _ hq)) fun v post h' tk' F' N' K' R => by
    obtain ⟨rfl, tl', rfl⟩ := R
    refine h h' tk' tl' F' (News.append (news_kept (fun q hq => hN q (List.mem_append_left _ hq)) (fun q hq hm => ?_) K') N')
    have := rdr_le ok _ hm
    have := ho q hq
    exact absurd this (Nat.not_lt.mpr ‹_›)
theorem use_rc2 {w : World} {p loose mean mg mb} (r : RP) (ok : r.Ok) {dp un : Nat} {gd : Option (List Code)} {cn : PySem.Str} {cs : Scope} {a : Addr} {ccd : Value} {cl : List (PySem.Str × Addr)} {outer : List Env} {A₀ : Around} {base h₀ : Heap} {L : Addr} {m : PySem.Str → Option Value} {s : Shared} {Q E : Value → Shared → Prop}
    {own : List (Addr × Obj)} {ln : Int} {tl : Tok} {pb : List Value} {kp : Nat} {lf : List Value} {kl : Nat} {st : List Nat} (hlf : CharsAre lf st.reverse) (hl : st.length ≤ 1000) (h8 : st.all (· < 0x110000) = true) (hne : st ≠ [])
    (hB : Below A₀ base outer h₀) (hF : Fr h₀ L s.heap m) (hX : (hd.heap_1 w.params).In h₀) (hT : Top p loose mean mg mb h₀) (hk : cs.kind = .function) (hr : dp + 6 < recursionLimit) (hu : un + 16 * 6 < cLine) (hC : CodeHd base 109 107)
    (hN : News h₀ L s.heap (own ++ rdr 153 w.params r ln tl pb kp lf kl)) (ho : ∀ p ∈ own, @LT.lt Nat _ r.aP p.1)
    (h : ∀ h' tk' tl' us tc, CharsAre us st.tail.reverse → Fr h₀ L h' m → News h₀ L h' (own ++ rdr 153 w.params r (ln + if st.headD 0 = 10 then 1 else 0) tl' pb kp us (kl + 1)) → Q (.str (S [st.headD 0]) tc) { s with heap := h', toks := tk' }) :
    codeAny (model Challenge.pw_sc0056_02 w) (ktrTop dp un gd cn cs L a ccd cl outer) (.call (.ref 42) ⟨[.ref r.aR], []⟩) (fun r s' => match r with | .ok (.ret v) => Q v s' | .ok _ => False | .error e => E e s') s := by
  cases st with
  | nil => exact absurd rfl hne
  | cons c st' =>
    obtain ⟨us, tc, rfl, hus⟩ := chars_snoc hlf
    refine use_rc r ok dp un gd cn cs a ccd cl outer A₀ base h₀ L m s Q E own ln tl pb kp us kl st'.reverse c tc hus ?_ ?_ hB hF hX hT hk hr hu hC hN ho fun h' tk' tl' F' N' => h h' tk' tl' us tc hus F' N'
    · simp only [List.length_reverse]; simp only [List.length_cons] at hl; omega
    · simp only [List.all_cons, Bool.and_eq_true] at h8
      simp [List.all_append, List.all_reverse, h8.1, h8.2]
theorem cit_step {w : World} {p loose mean mg mb} (r : RP) (ok : r.Ok) {dp un : Nat} {gd : Option (List Code)} {cn : PySem.Str} {cs : Scope} {a : Addr} {ccd : Value} {cl : List (PySem.Str × Addr)} {outer : List Env} {A₀ : Around} {base h₀ : Heap} {L : Addr} {m : PySem.Str → Option Value} {s : Shared} {Q : Option Value → Shared → Prop} {E : Value → Shared → Prop}
    {D bm : Addr} {tv : Tok} {ln : Int} {tl : Tok} {pb : List Value} {kp : Nat} {lf : List Value} {kl : Nat} {st : List Nat} (hlf : CharsAre lf st.reverse) (hl : st.length ≤ 1000) (h8 : st.all (· < 0x110000) = true)
    (hB : Below A₀ base outer h₀) (hF : Fr h₀ L s.heap m) (hX : (hd.heap_1 w.params).In h₀) (hT : Top p loose mean mg mb h₀) (hk : cs.kind = .function) (hr : dp + 6 < recursionLimit) (hu : un + 1 + 16 * 6 < cLine) (hC : CodeHd base 109 107)
    (hN : News h₀ L s.heap ([(D, citObj (.ref bm) (.str (S []) tv) false), (bm, methodObj (.ref 42) (.ref r.aR))] ++ rdr 153 w.params r ln tl pb kp lf kl)) (l1 : @LT.lt Nat _ r.aP bm) (l2 : @LT.lt Nat _ bm D)
    (hnil : st = [] → ∀ h' tk', Fr h₀ L h' m → News h₀ L h' (rdr 153 w.params r ln tl pb kp lf kl) → Q none { s with heap := h', toks := tk' })
    (hcons : st ≠ [] → ∀ h' tk' tl' us tc, CharsAre us st.tail.reverse → Fr h₀ L h' m → News h₀ L h' ([(D, citObj (.ref bm) (.str (S []) tv) false), (bm, methodObj (.ref 42) (.ref r.aR))] ++ rdr 153 w.params r (ln + if st.headD 0 = 10 then 1 else 0) tl' pb kp us (kl + 1)) → Q (some (.str (S [st.headD 0]) tc)) { s with heap := h', toks := tk' }) :
    wpAny (model Challenge.pw_sc0056_02 w) (ktrTop dp un gd cn cs L a ccd cl outer) (pyNext (.ref D)) Q E s := by
  have f42 : fnIn (hd.heap_1 w.params) 42 = true := by rfl
  have hD0 : ∀ (k : Addr) (o : Obj), (k, o) ∈ ([(D, citObj (.ref bm) (.str (S []) tv) false), (bm, methodObj (.ref 42) (.ref r.aR))] ++ rdr 153 w.params r ln tl pb kp lf kl) → h₀.get? k = none := fun k o hm => (hN _ hm).2.2
  have hown : ∀ p ∈ [(D, citObj (.ref bm) (.str (S []) tv) false), (bm, methodObj (.ref 42) (.ref r.aR))], @LT.lt Nat _ r.aP p.1 := by
    intro p hp
    simp only [List.mem_cons, List.not_mem_nil, or_false] at hp
    rcases hp with rfl | rfl
    · exact Nat.lt_trans l1 l2
    · exact l1
  refine r_citNext (self := .ref r.aR) rfl (hN _ (.head _)).1 (hN _ (.tail _ (.head _))).1 (fn_of_in f42 (hX.keeps hF.keep)) fun E' => ?_
  refine call_meth hN (.tail _ (.head _)) ?_
  by_cases e : st = []
  · subst e
    cases hlf
    refine con_rc0 r ok ln tl pb kp kl dp (un + 1) gd cn cs a ccd cl outer A₀ base h₀ L m s _ _ hB hF hX hT hk hr hu hC (fun q hq => hN q (List.mem_append_right _ hq)) fun v post h' tk' F' N' K' R => ?_
    obtain ⟨⟨t, rfl⟩, rfl⟩ := R
    have No := news_kept (fun q hq => hN q (List.mem_append_left _ hq)) (fun q hq hm => absurd (rdr_le ok _ hm) (Nat.not_le.mpr (hown q hq))) K'
    refine ⟨[], t, rfl, (No _ (.head _)).1, (No _ (.tail _ (.head _))).1, fn_of_in f42 (hX.keeps F'.keep), fun q => absurd rfl q, fun _ h'' ex => ?_⟩
    refine hnil rfl h'' tk' (fr_butD F' (No _ (.head _)).2.1 (No _ (.head _)).2.2 ex) (news_butD N' (fun q hq hD => ?_) ex)
    have := rdr_le (l := 153) (P := w.params) (ln := ln) (tl := tl) (pb := pb) (kp := kp) (lf := []) (kl := kl) ok _ (List.mem_map_of_mem hq)
    rw [hD] at this
    exact absurd this (Nat.not_le.mpr (Nat.lt_trans l1 l2))
  · refine use_rc2 (un := un + 1) r ok hlf hl h8 e hB hF hX hT hk hr hu hC hN hown fun h' tk' tl' us tc hus F' N' => ?_
    exact ⟨[st.headD 0], tc, rfl, (N' _ (.head _)).1, (N' _ (.tail _ (.head _))).1, fn_of_in f42 (hX.keeps F'.keep), fun _ => hcons e h' tk' tl' us tc hus F' N', fun q => by cases q⟩
end
section
local macro_rules | `(tactic| walk_at "zz0") => `(tactic| fail)
local macro_rules | `(tactic| walk_at "zz1") => `(tactic| fail)
local macro_rules | `(tactic| walk_at "zz2") => `(tactic| fail)
noncomputable def lawSt : Stmt := (Challenge.pw_sc0056_02.main.body.getLast?).getD (.Pass default)
noncomputable def lawBody : List Stmt := match lawSt with | .FunctionDef _ _ b .. => b | _ => []
noncomputable def lawScope : Scope := match lawSt with | .FunctionDef _ _ _ _ _ _ sc .. => sc | _ => default
noncomputable abbrev lawN : PySem.Str := PySem.Str.ofString "law"
noncomputable abbrev lawCl (L : Addr) : List (PySem.Str × Addr) := cellsFrom (L + 1) lawScope.names []
noncomputable abbrev lawEnv (L fa : Addr) (ccd : Value) : Env := envX lawN lawScope L fa ccd (lawCl L)
noncomputable abbrev lawA (dp un : Nat) (gd : Option (List Code)) (L fa : Addr) (ccd : Value) (outer : List Env) : Around := ktrTop dp un gd lawN lawScope L fa ccd (lawCl L) outer
noncomputable abbrev Ends (g : Heap) (L : Addr) (s : Shared) (Q : Flow → Shared → Prop) : Prop := ∀ h' m' tk ps, Fr g L h' m' → News g L h' [(107, tabObj ps)] → Q (.ret (.bool true)) { s with heap := h', toks := tk }
end
section
noncomputable def forSt : Stmt := (lawBody.drop 15).head?.getD (.Pass default)
noncomputable def forBody : List Stmt := match forSt with | .For _ _ b .. => b | _ => []
end
section
local macro_rules | `(tactic| walk_at "zz0") => `(tactic| fail)
local macro_rules | `(tactic| walk_at "zz1") => `(tactic| fail)
local macro_rules | `(tactic| walk_at "zz2") => `(tactic| fail)
example : True := by
  k_with_none
  w_top off
  k_with "olt" => (first | assumption | ((fail_if_success refine oM ?_); refine oL ?_; k_extra "ole") | k_extra "olh")
  k_with "olh" => (refine oH (by assumption) (by k_extra "ole"))
  k_with "ole" => (first | exact Nat.le_refl _ | assumption | exact oB | ((first | refine oA ?_ | refine oA2 ?_ | refine oA3 ?_); k_extra "ocl") | (refine oS ?_; k_extra "ole") | (refine Nat.le_of_lt ?_; (first | assumption | k_extra "olh")) | exact oE)
  k_with "olt2" => (first | k_extra "oas" | ((fail_if_success refine oM ?_); refine oL ?_; k_extra "ole2") | k_extra "olh2")
  k_with "olh2" => (refine oH (by k_extra "oas") (by k_extra "ole2"))
  k_with "ole2" => (first | exact Nat.le_refl _ | k_extra "oas" | exact oB | ((first | refine oA ?_ | refine oA2 ?_ | refine oA3 ?_); k_extra "ocl") | (refine oS ?_; k_extra "ole2") | (refine Nat.le_of_lt ?_; (first | k_extra "oas" | k_extra "olh2")) | exact oE)
  k_with "opu" => (first | exact oB | exact Nat.le_refl _ | (refine oS ?_; k_extra "opu"))
  k_with "olt0" => (refine oL ?_; k_extra "opu")
  k_with "one" => (first | (refine Nat.ne_of_gt ?_; (fail_if_success refine oM ?_); k_extra "olt0") | (refine Nat.ne_of_lt ?_; (fail_if_success refine oM ?_); k_extra "olt0") | exact Ne.symm (by assumption) | (refine Nat.ne_of_gt ?_; (fail_if_success refine oM ?_); k_extra "oas") | (refine Nat.ne_of_lt ?_; (fail_if_success refine oM ?_); k_extra "oas") | (refine Nat.ne_of_gt ?_; (fail_if_success refine oM ?_); k_extra "odd") | (refine Nat.ne_of_lt ?_; (fail_if_success refine oM ?_); k_extra "odd") | (refine Nat.ne_of_gt ?_; (fail_if_success refine oM ?_); k_extra "olt") | (refine Nat.ne_of_lt ?_; (fail_if_success refine oM ?_); k_extra "olt") | (refine Nat.ne_of_gt ?_; (fail_if_success refine oM ?_); k_extra "olt2") | (refine Nat.ne_of_lt ?_; (fail_if_success refine oM ?_); k_extra "olt2") | decide)
  k_with "ol1" => (first | ((fail_if_success refine oM ?_); first | k_extra "oas" | k_extra "olt0" | k_extra "odd" | k_extra "olt" | k_extra "olt2") | k_extra "ocl" | exact oT0 | exact oT5)
  k_with "oe1" => (first | ((fail_if_success refine oN ?_); first | k_extra "oas" | k_extra "opu" | k_extra "ole" | k_extra "ole2" | exact oE (by k_extra "oas")) | k_extra "ocl" | k_extra "olit" | k_extra "oas")
  k_with "olit" => (first | exact oT4 | exact oP | exact oP2 | exact oT1 | exact oT2 | exact oT3 | exact oQ5 | exact oQ1 | exact oQ2 | exact oQ3 | exact oQ4 | exact oQ6 | exact oD)
  k_with "ocl" => (with_unfolding_all exact Nat.le_of_ble_eq_true rfl)
  k_with "oas" => (first | assumption | exact oa1 | exact ob1 | exact oa2 | exact ob2 | exact oa3 | exact ob3 | exact oa4 | exact ob4 | exact oa5 | exact ob5 | exact oa6 | exact ob6 | exact oa7 | exact ob7)
  k_with "odd" => (first | exact oa1 ob7 | exact oa2 ob7 | exact oa3 ob7 | exact oa4 ob7 | exact oa5 ob7 | exact oa6 ob7 | exact oa7 ob7 | exact oa1 (ob7 ob7) | exact oa2 (ob7 ob7) | exact oa3 (ob7 ob7) | exact oa4 (ob7 ob7) | exact oa5 (ob7 ob7) | exact oa6 (ob7 ob7) | exact oa7 (ob7 ob7) | exact ob1 ob7 | exact ob2 ob7 | exact ob3 ob7 | exact ob4 ob7 | exact ob5 ob7 | exact ob6 ob7 | exact ob7 ob7)
  k_with "oin" => (first | decide | exact oI1 | exact oI3 | exact oI2 (by k_extra "oas"))
  k_with "om" => (with_reducible first | (first | assumption | ((fail_if_success fail_if_success refine oXn ?_); k_extra "one") | ((fail_if_success fail_if_success refine oXl ?_); k_extra "ol1") | ((fail_if_success fail_if_success refine oXe ?_); k_extra "oe1") | k_extra "oin") | fail)
  k_with "S_fit" => (first | omega | ((simp only [S_len, List.length_append, List.length_cons, List.length_nil, List.length_take, List.length_drop, dots, PySem.sizeLine_eq]); omega))
  k_with "call builtin:len" => (((with_reducible show wpAny _ _ (call (Value.builtin "len") [Value.str (S _) _]) _ _ _); refine r_len (by walk_at "S_fit") ?_))
  k_with "call builtin:str.startswith" => (((with_reducible show wpAny _ _ (call (Value.builtin "str.startswith") [Value.str (S _) _, Value.str (S _) _]) _ _ _); refine r_starts ?_))
  k_with "call builtin:str.endswith" => (((with_reducible show wpAny _ _ (call (Value.builtin "str.endswith") [Value.str (S _) _, Value.str (S _) _]) _ _ _); refine r_ends ?_))
  k_with "truthy str" => (((with_reducible show wpAny _ _ (truthy (Value.str (S _) _)) _ _ _); refine r_truthy (by walk_at "S_fit") ?_))
  k_with "exec For Name Name cons nil" => ((k_here; (rename Fr _ _ _ _ => Z6Xa); (with_unfolding_all refine' For_invVF Z6Xa ?Q6Xa ?Q6Xb ?_; (case Q6Xa => exact rfl); (case Q6Xb => exact rfl); k_whole)))
  k_with "pyIter ref" => (((with_reducible show wpAny _ _ (pyIter (Value.ref _)) (fun it s₂ => LoopAtV _ _ _ _ _ _ _ _ _ it s₂) _ _); k_listUnr))
  k_with "S_enter" => ((refine' code_defG (news := []) ?Q8Xa ?Q8Xb ?Q8Xc ?Q8Xd ?Q8Xe ?Q8Xf ?Q8Xg ?Q8Xh ?Q8Xi ?Q8Xj ?Q8Xk ?Q8Xl ?Q8Xm ?_ ?Q8Xn ?Q8Xo ?Q8Xp ?Q8Xq; (case Q8Xf => exact rfl); (case Q8Xg => exact rfl); (case Q8Xh => assumption); (case Q8Xa => k_asm); (case Q8Xb => k_asm); (case Q8Xc => k_asm); (case Q8Xd => exact News.nil); (case Q8Xe => k_asm); (case Q8Xi => k_is); (case Q8Xj => k_is); (case Q8Xk => ktr_room); (case Q8Xl => exact BindsTo.of_eq rfl); (case Q8Xq => decide); (case Q8Xm => exact locs rfl); (case Q8Xn => exact rfl); (case Q8Xo => exact rfl); (case Q8Xp => exact rfl); k_whole; intro Z8Xh Z8Xd Z8Xi Z8Xc Z8Xb Z8Xe Z8Xa Z8Xg Z8Xf Z8Xj; (try dsimp only [List.map_nil] at Z8Xj); (try dsimp only); (try k_lift Z8Xa); (try k_fold)))
  k_with "S_look" => (first | exact rfl | assumption | exact (if_pos rfl) | (refine (if_neg (by decide)).trans ?_; walk_at "S_look"))
  k_with "eval Name" => ((k_here; k_dflt (refine' nameX_L ?QaXa ?QaXb ?_ ?QaXc ?QaXd; (case QaXa => k_asm); (case QaXc => rfl); (case QaXd => rfl); (case QaXb => walk_at "S_look"); k_whole)))
  k_with "S_lit" => (first | (with_reducible exact lit_dots) | (with_reducible rfl))
  k_with "S_nn" => (first | omega | ((simp only [List.length_append, List.length_cons, List.length_nil, List.length_take, List.length_drop, dots] at *); omega))
  k_with "binaryOp Add str str" => (((with_reducible show wpAny _ _ (binaryOp _ (Value.str _ _) (Value.str _ _)) _ _ _); k_dflt (refine r_add (by walk_at "S_lit") (by walk_at "S_lit") (by walk_at "S_fit") ?_); intro _ _))
  k_with "subscriptTail Name Slice str ref" => (((with_reducible show wpAny _ _ (subscriptTail _ (Expr.Slice none (some _) none _) (Value.str (S _) _) _) _ _ _); (with_reducible rename Fr _ _ _ _ => ZeXa); (with_reducible rename News _ _ _ _ => ZeXb); (refine r_sliceTo (s := ⟨_, _, _, _, _⟩) ZeXa ZeXb (by walk_at "S_nn") (by walk_at "S_fit") ?_); intro _ _ _ _ _))
  k_with "subscriptTail Name Slice str ref" => (((with_reducible show wpAny _ _ (subscriptTail _ (Expr.Slice (some _) none none _) (Value.str (S _) _) _) _ _ _); (with_reducible rename Fr _ _ _ _ => ZfXa); (with_reducible rename News _ _ _ _ => ZfXb); (refine r_sliceFrom (s := ⟨_, _, _, _, _⟩) ZfXa ZfXb (by walk_at "S_nn") (by walk_at "S_fit") ?_); intro _ _ _ _ _))
  k_with "exec For Name Call cons nil" => ((k_here; (rename Fr _ _ _ _ => ZgXa); (with_unfolding_all refine' For_invVF ZgXa ?QgXa ?QgXb ?_; (case QgXa => exact rfl); (case QgXb => exact rfl); k_whole)))
  k_with "S_use" => ((refine' pcon_use ?QhXa ?QhXb ?QhXc ?QhXd ?QhXe ?QhXf ?QhXg ?QhXh ?_; (case QhXb => k_asm); (case QhXc => k_asm); (case QhXd => k_asm); (case QhXe => k_asm); (case QhXa => walk_at "S_con"); (case QhXf => first | exact rfl | assumption); (case QhXg => ktr_room); (case QhXh => ktr_units)))
  k_with "call ref" => ((k_here; k_dflt (walk_at "S_use"); intro ZiXf ZiXd ZiXe ZiXb; (have ZiXa := Fr.keeps (by k_asm) ZiXb); (have ZiXc := News.grown (by k_asm) ZiXb); walk_at "S_back" <;> ((try dsimp only); (try k_fold))))
  k_with "pyIter ref" => (k_extra "S_loop")
  k_with "S_bool" => ((intro ZkXa; (rcases bool_or ZkXa with ⟨R8, R7⟩ | ⟨R8, R7⟩) <;> subst R7))
  k_with "call builtin:list.append" => ((k_here; (with_reducible show wpAny _ _ (call (Value.builtin _) [Value.ref _, _]) _ _ _); k_dflt (refine' append_K ?QlXa ?QlXb ?QlXc ?_ ?QlXd; (case QlXa => k_asm); (case QlXb => k_asm); (case QlXc => k_upd); (case QlXd => exact size_ok (k := 100000) (by omega) (by decide)); k_whole); intro ZlXc ZlXa ZlXb; (try k_sweep)))
  k_with "m_k_room" => (ktr_room)
  k_with "m_k_units" => (ktr_units)
  k_with "S_enterM" => ((refine' code_defG ?QoXa ?QoXb ?QoXc ?QoXd ?QoXe ?QoXf ?QoXg ?QoXh ?QoXi ?QoXj ?QoXk ?QoXl ?QoXm ?_ ?QoXn ?QoXo ?QoXp ?QoXq; (case QoXf => exact rfl); (case QoXg => exact rfl); (case QoXh => assumption); (case QoXa => k_asm); (case QoXb => k_asm); (case QoXc => k_asm); (case QoXd => k_asm); (case QoXe => k_asm); (case QoXi => k_is); (case QoXj => k_is); (case QoXk => ktr_room); (case QoXl => exact BindsTo.of_eq rfl); (case QoXq => decide); (case QoXm => exact locs rfl); (case QoXn => exact rfl); (case QoXo => exact rfl); (case QoXp => exact rfl); k_whole; intro ZoXh ZoXd ZoXi ZoXc ZoXb ZoXe ZoXa ZoXg ZoXf ZoXj; (try dsimp only [List.map_nil, List.map_cons] at ZoXj); (try dsimp only); (try k_lift ZoXa); (try k_fold)))
  k_with "callWith" => (((with_reducible show wpAny _ _ (callWith _ (Prod.fst _) (Prod.snd _) _ _) _ _ _); dsimp only))
  k_with "S_int" => (first | omega | decide | ((simp only [List.length_cons, List.length_nil, decide_eq_true_eq, decide_eq_false_iff_not, beq_iff_eq, beq_eq_false_iff_ne, ne_eq, Int.not_lt, Int.not_le] at *); omega))
  k_with "binaryOp FloorDiv int int" => (((with_reducible show wpAny _ _ (binaryOp _ (Value.int _ _) (Value.int _ _)) _ _ _); k_dflt (refine r_fdiv (by walk_at "S_int") (by walk_at "S_int") ?_); intro _ _))
  k_with "binaryOp Mod int int" => (((with_reducible show wpAny _ _ (binaryOp _ (Value.int _ _) (Value.int _ _)) _ _ _); k_dflt (refine r_fmod (by walk_at "S_int") ?_); intro _ _))
  k_with "S_item" => (((with_reducible show wpAny _ _ (subscriptTail _ _ (Value.str (S _) _) (Value.int _ _)) _ _ _); k_dflt (refine r_item (by walk_at "S_int") (by walk_at "S_int") (by walk_at "S_fit") ?_); intro _ _))
  k_with "subscriptTail Name BinOp str int" => (walk_at "S_item")
  k_with "subscriptTail Name Constant str int" => (walk_at "S_item")
  k_with "subscriptTail Name Name str int" => (walk_at "S_item")
  k_with "S_lit" => (first | (with_reducible exact lit_dots) | (with_reducible exact lit_empty) | (with_reducible exact lit34) | (with_reducible exact lit9234) | (with_reducible exact lit92) | (with_reducible exact lit10) | (with_reducible exact lit38) | (with_reducible exact lit59) | (with_reducible rfl))
  k_with "call builtin:str.replace" => (((with_reducible show wpAny _ _ (call (Value.builtin _) [Value.str (S _) _, Value.str _ _, Value.str _ _]) _ _ _); k_dflt (refine r_replace (by walk_at "S_lit") (by walk_at "S_lit") (by decide) (Nat.succ_ne_zero _) (Nat.succ_ne_zero _) (Nat.ne_of_lt (Nat.lt_succ_self _)) (by decide) (by walk_at "S_nn") ?_); intro _ _))
  k_with "call builtin:str.join" => ((k_here; (with_reducible show wpAny _ _ (call (Value.builtin _) [Value.str _ _, Value.ref _]) _ _ _); k_dflt (refine r_join (by walk_at "S_lit") (by walk_at "S_isl") (by walk_at "S_strs") (by walk_at "S_sum") ?_); intro _ _))
  k_with "S_isl" => (first | assumption | exact ⟨LCg.lst _, News.get (by k_asm) (by k_mem), rfl, _, rfl⟩ | is_list)
  k_with "S_strs" => (first | exact StrsAre.nil | assumption | (exact CharsAre.strs (by assumption)))
  k_with "binaryOp Mult str int" => (((with_reducible show wpAny _ _ (binaryOp _ (Value.str (S _) _) (Value.int _ _)) _ _ _); k_dflt (refine r_mul (by walk_at "S_int") (by walk_at "S_int") (by walk_at "S_nn") ?_); intro _ _))
  k_with "S_enterC" => ((refine' code_defCG ?Q13Xa ?Q13Xb ?Q13Xc ?Q13Xd ?Q13Xe ?Q13Xf ?Q13Xg ?Q13Xh ?Q13Xi ?Q13Xj ?Q13Xk ?Q13Xl ?Q13Xm ?Q13Xn ?_ ?Q13Xo ?Q13Xp ?Q13Xq; (case Q13Xf => exact rfl); (case Q13Xg => exact rfl); (case Q13Xh => assumption); (case Q13Xa => k_asm); (case Q13Xb => k_asm); (case Q13Xc => k_asm); (case Q13Xd => k_asm); (case Q13Xe => k_asm); (case Q13Xi => k_is); (case Q13Xj => k_is); (case Q13Xk => ktr_room); (case Q13Xl => exact BindsTo.of_eq rfl); (case Q13Xm => rfl); (case Q13Xn => decide); (case Q13Xo => exact rfl); (case Q13Xp => exact rfl); (case Q13Xq => exact rfl); k_whole; intro Z13Xj Z13Xd Z13Xk Z13Xo Z13Xi Z13Xc Z13Xb Z13Xe Z13Xh Z13Xa Z13Xg Z13Xf Z13Xm Z13Xl Z13Xn; (try dsimp only [List.map_nil, List.map_cons] at Z13Xl); (try k_lt Z13Xm); k_cells Z13Xh; (try simp only [List.cons_append, List.nil_append] at Z13Xe); (try dsimp only); (try k_lift Z13Xa); (try k_fold)))
  k_with "S_lcs" => ((k_here; k_dflt (refine ListComp_S (_F₀ := by k_asm) (by rfl) (by decide) (by rfl) (by decide) (by rfl) ?_)))
  k_with "S_lit" => (first | (with_reducible exact lit_dots) | (with_reducible exact lit_empty) | (with_reducible exact lit34) | (with_reducible exact lit9234) | (with_reducible exact lit92) | (with_reducible exact lit10) | (with_reducible exact lit38) | (with_reducible exact lit59) | (with_reducible exact lit60) | (with_reducible exact lit62) | (with_reducible exact lit13) | (with_reducible exact lit9) | (with_reducible exact litamp) | (with_reducible exact litlt) | (with_reducible exact litgt) | (with_reducible exact litquot) | (with_reducible rfl))
  k_with "S_sum" => (assumption)
  k_with "call builtin:iter" => ((k_here; (with_reducible show wpAny _ _ (call (Value.builtin _) [Value.ref _, _]) _ _ _); k_dflt (refine' r_iter2 ?Q17Xa ?Q17Xb ?Q17Xc ?_; (case Q17Xa => k_asm); (case Q17Xb => k_asm); (case Q17Xc => k_mem)); (intro Z17Xa Z17Xd Z17Xb Z17Xc Z17Xe); (try k_lt Z17Xe)))
  k_with "exec For Name Name cons nil" => ((k_here; (rename Fr _ _ _ _ => Z18Xa); k_dflt (refine' For_own Z18Xa ?Q18Xa ?Q18Xb ?_; (case Q18Xa => exact rfl); (case Q18Xb => exact rfl); k_whole)))
  k_with "pyIter ref" => (k_extra "S_loop")
  k_with "pyIter ref" => ((k_here; (with_reducible show wpAny _ _ (pyIter _) _ _ _); k_dflt (refine r_citIter (News.get (by k_asm) (by k_mem)) ?_)))
  k_with "call ref" => ((k_here; (with_reducible show wpAny _ _ (call (Value.ref 42) _) _ _ _); (refine stop9 ?_)))
  k_with "compareOp In str str" => ((k_here; k_dflt (refine r_inWs ?_)))
  k_with "loadName" => ((k_here; k_dflt (refine' ldnX_L ?Q1dXa ?Q1dXb ?_ ?Q1dXc ?Q1dXd; (case Q1dXa => k_asm); (case Q1dXc => rfl); (case Q1dXd => rfl); (case Q1dXb => walk_at "S_look"); k_whole)))
  k_with "inplaceOp Add str str" => (((with_reducible show wpAny _ _ (inplaceOp _ (Value.str _ _) (Value.str _ _)) _ _ _); k_dflt (refine r_iadd (by walk_at "S_lit") (by walk_at "S_lit") (by walk_at "S_fit") ?_); intro _ _))
  trivial
inductive GInv (P : Params) (r : RP) (g : Heap) (L D bm : Addr) (tv : Tok) (kp : Nat) (tot : Int) (fin : List Nat × List Nat) (run : List Nat → List Nat → Option (List Nat × List Nat)) (s0 : Shared) (n : Nat) (s : Shared) : Prop
  | mk (h : Heap) (tk : Nat) (st tok : List Nat) (tkk : Tok) (ln : Int) (tl : Tok) (lf : List Value) (kl : Nat) (m : PySem.Str → Option Value) : s = { s0 with heap := h, toks := tk } → n = st.length → run st tok = some fin → CharsAre lf st.reverse → st.length ≤ 900 → st.all (· < 0x110000) = true →
    tok.length + st.length ≤ 900 → ln + st.count 10 = tot → Fr g L h m → News g L h ([(D, citObj (.ref bm) (.str (S []) tv) false), (bm, methodObj (.ref 42) (.ref r.aR))] ++ rdr 153 P r ln tl [] kp lf kl) →
    m "self" = some (.ref r.aR) → m "token" = some (.str (S tok) tkk) → m "fiter" = some (.ref D) → GInv P r g L D bm tv kp tot fin run s0 n s
theorem GInv.loop {prog : Program} {w : World} {A : Around} {env : Env} {h₀ : Heap} {x : PySem.Str} {body : List Stmt} {Q : Flow → Shared → Prop} {E : Value → Shared → Prop} {it : Value} {P : Params} {r : RP} {g : Heap} {L D bm : Addr} {tv : Tok} {kp : Nat} {tot : Int} {fin : List Nat × List Nat} {run : List Nat → List Nat → Option (List Nat × List Nat)} {s : Shared} {n : Nat} (st : GInv P r g L D bm tv kp tot fin run s n s)
    (h : ∀ I : Nat → Shared → Prop, (∀ n z, I n z → GInv P r g L D bm tv kp tot fin run s n z) → (∀ n z, GInv P r g L D bm tv kp tot fin run s n z → I n z) → ∀ n z, I n z → wpAny (model prog w) A (pyNext it) (TurnK prog w A env h₀ x body Q E I n) E z) : LoopOwn prog w A env h₀ x body Q E it s :=
  ⟨_, n, st, h _ (fun _ _ h => h) (fun _ _ h => h)⟩
theorem GInv.intro {P : Params} {r : RP} {g : Heap} {L D bm : Addr} {tv : Tok} {kp : Nat} {tot : Int} {fin : List Nat × List Nat} {run : List Nat → List Nat → Option (List Nat × List Nat)} {s0 : Shared}
    {h : Heap} {tk : Nat} {st tok : List Nat} {tkk : Tok} {ln : Int} {tl : Tok} {lf : List Value} {kl : Nat} {m : PySem.Str → Option Value} (hrun : run st tok = some fin) (hlf : CharsAre lf st.reverse) (hl : st.length ≤ 900) (h8 : st.all (· < 0x110000) = true)
    (hz : tok.length + st.length ≤ 900) (hln : ln + st.count 10 = tot) (F : Fr g L h m) (N : News g L h ([(D, citObj (.ref bm) (.str (S []) tv) false), (bm, methodObj (.ref 42) (.ref r.aR))] ++ rdr 153 P r ln tl [] kp lf kl))
    (hs : m "self" = some (.ref r.aR)) (ht : m "token" = some (.str (S tok) tkk)) (hf : m "fiter" = some (.ref D)) : GInv P r g L D bm tv kp tot fin run s0 st.length { s0 with heap := h, toks := tk } :=
  ⟨h, tk, st, tok, tkk, ln, tl, lf, kl, m, rfl, rfl, hrun, hlf, hl, h8, hz, hln, F, N, hs, ht, hf⟩
theorem GInv.start {P : Params} {r : RP} {g : Heap} {L D bm : Addr} {tv : Tok} {kp : Nat} {tot : Int} {fin : List Nat × List Nat} {run : List Nat → List Nat → Option (List Nat × List Nat)} {s : Shared}
    {st tok : List Nat} {tkk : Tok} {ln : Int} {tl : Tok} {lf : List Value} {kl : Nat} {m : PySem.Str → Option Value} (F : Fr g L s.heap m) (N : News g L s.heap ([(D, citObj (.ref bm) (.str (S []) tv) false), (bm, methodObj (.ref 42) (.ref r.aR))] ++ rdr 153 P r ln tl [] kp lf kl)) (hrun : run st tok = some fin) (hlf : CharsAre lf st.reverse) (hl : st.length ≤ 900) (h8 : st.all (· < 0x110000) = true)
    (hz : tok.length + st.length ≤ 900) (hln : ln + st.count 10 = tot) 
    (hs : m "self" = some (.ref r.aR)) (ht : m "token" = some (.str (S tok) tkk)) (hf : m "fiter" = some (.ref D)) : GInv P r g L D bm tv kp tot fin run s st.length s :=
  ⟨s.heap, s.toks, st, tok, tkk, ln, tl, lf, kl, m, rfl, rfl, hrun, hlf, hl, h8, hz, hln, F, N, hs, ht, hf⟩
noncomputable def run0 (st tok : List Nat) : Option (List Nat × List Nat) := if tok = [] then getTok st else none
theorem quote_iff (c : Nat) : (S [c] == PySem.Str.ofString "\"") = decide (c = 34) := by
  have e : PySem.Str.ofString "\"" = S [34] := by rfl
  rw [e, S_beq]
  by_cases h : c = 34 <;> simp [h]
theorem back_iff (c : Nat) : (S [c] == PySem.Str.ofString "\\") = decide (c = 92) := by
  have e : PySem.Str.ofString "\\" = S [92] := by rfl
  rw [e, S_beq]
  by_cases h : c = 92 <;> simp [h]
theorem con_gt {w : World} {p loose mean mg mb} (r : RP) (ok : r.Ok) (ln : Int) (tl : Tok) (kp : Nat) (lf : List Value) (kl : Nat) (st tok rest : List Nat) (hlf : CharsAre lf st.reverse) (hl : st.length ≤ 900)
    (h8 : st.all (· < 0x110000) = true) (hg : getTok st = some (tok, rest)) :
    MCon 109 107 10 Challenge.pw_sc0056_02 w (hd.heap_1 w.params) p loose mean mg mb 49 [.ref r.aR] (rdr 153 w.params r ln tl [] kp lf kl)
      (fun v post => ∃ t ln' tl' lf' kl', v = .str (S tok) t ∧ post = rdr 153 w.params r ln' tl' [] kp lf' kl' ∧ CharsAre lf' rest.reverse ∧ ln' + rest.count 10 = ln + st.count 10) := by
  have RC2 := @use_rc2 w p loose mean mg mb r ok
  have CS := @cit_step w p loose mean mg mb r ok
  obtain ⟨hd1, hd2, hd3, o1, o2, o3, o4, o5, o6, o7, o8, o9⟩ := ok
  (try dsimp only at hd1 hd2 hd3 o1 o2 o3 o4 o5 o6 o7 o8 o9)
  dsimp only [rdr, List.cons_append, List.nil_append] at CS
  dsimp only [rdr] at RC2
  dsimp only [MCon, rdr]
  intros
  rename_i hret
  k_dflt (walk_at "S_enterM")
  k_with "S_loop" => (refine stop9 ?_)
  k_steps
  rename News _ _ _ _ => N6
  rename Fr _ _ _ _ => F6
  rename r.aP < _ ∧ _ => l1
  rename _ < _ ∧ r.aP < _ ∧ _ => l2
  rw [lit_empty] at N6
  refine GInv.loop (P := w.params) (r := r) (kp := kp) (tot := ln + st.count 10) (fin := (tok, rest)) (run := run0) (GInv.start F6 N6 (tok := []) hg hlf hl h8 (by simpa using hl) rfl rfl (congrArg (fun z => some (Value.str z _)) lit_empty) rfl) fun I9 i1 i2 => ?_
  clear N6 F6
  intro n z hi9
  obtain ⟨h1, tk1, st1, tok1, tkk1, ln1, tl1, lf1, kl1, m1, rfl, rfl, hrun1, hlf1, hl1, h81, hz1, hln1, F2, N2, hs, ht, hf⟩ := i1 _ _ hi9
  dsimp only [rdr, List.cons_append, List.nil_append] at N2
  unfold run0 at hrun1
  split at hrun1
  · rename_i htok; subst htok
    k_dflt (refine' CS (by assumption) (by omega) (by assumption) ?kB F2 ?kX ?kT ?kk ?kr ?ku ?kC N2 l1.1 l2.1 ?hnil ?hcons)
    case kB => assumption
    case kX => assumption
    case kT => assumption
    case kk => rfl
    case kr => ktr_room
    case ku => ktr_units
    case kC => assumption
    case hnil =>
      intro e h3 tk3 F3 N3
      subst e
      cases hrun1
      dsimp only [TurnK]
      k_steps
      exact hret _ _ _ _ (by assumption) (by assumption) (mc_kept (by assumption) (by assumption)) ⟨_, _, _, _, _, rfl, rfl, hlf1, hln1⟩
    case hcons =>
      intro hne h3 tk3 tl3 us tc hus F3 N3
      cases st1 with
      | nil => exact absurd rfl hne
      | cons c st2 =>
        dsimp only [List.headD_cons, List.tail_cons] at hus N3
        dsimp only [List.headD_cons]
        rw [List.count_cons] at hln1
        rw [List.length_cons] at hl1 hz1
        have h82 : st2.all (· < 0x110000) = true := by
          rw [List.all_cons, Bool.and_eq_true] at h81; exact h81.2
        have hln2 : (ln1 + if c = 10 then 1 else 0) + (st2.count 10 : Nat) = ln + (st.count 10 : Nat) := by
          by_cases hc : c = 10 <;> simp [hc] at hln1 ⊢ <;> omega
        refine ⟨m1, F3, fun h4 F4 N4 => ?_⟩
        have N5 := N4 _ N3
        clear N4 N3 F3 N2 F2
        k_steps
        · refine' ⟨_, ?_, i2 _ _ (GInv.intro (P := w.params) (r := r) (tok := []) ?_ hus ?_ h82 ?_ hln2 (by assumption) (by assumption) (by walk_at "S_look") (by walk_at "S_look") (by walk_at "S_look"))⟩
          · walk_at "S_nn"
          · (rename isWs c = true => hw); rw [g_ws hw] at hrun1; rw [run0, if_pos rfl]; exact hrun1
          · walk_at "S_nn"
          · walk_at "S_nn"
        · rename isWs c = false => hw
          rename (S [c] == PySem.Str.ofString "\"") = true => hq
          rw [quote_iff] at hq
          replace hq := of_decide_eq_true hq
          rename News _ _ _ _ => N6
          rename Fr _ _ _ _ => F6
          subst hq
          have hr : qrun st2 [] = some (tok, rest) := by
            rw [g_quote] at hrun1; exact hrun1
          refine GInv.loop (P := w.params) (r := r) (kp := kp) (tot := ln + st.count 10) (fin := (tok, rest)) (run := qrun) (GInv.start F6 N6 (tok := []) hr hus (by walk_at "S_nn") h82 (by walk_at "S_nn") hln2 (by walk_at "S_look") (by walk_at "S_look") (by walk_at "S_look")) fun I9 i1 i2 => ?_
          clear N6 F6 hrun1 hus
          intro n z hi9
          obtain ⟨h1, tk1, st1, tok1, tkk1, ln1, tl1, lf1, kl1, m1, rfl, rfl, hrun1, hlf1, hl1, h81, hz1, hln1, F2, N2, hs, ht, hf⟩ := i1 _ _ hi9
          dsimp only [rdr, List.cons_append, List.nil_append] at N2
          k_dflt (refine' CS (by assumption) (by omega) (by assumption) ?kB F2 ?kX ?kT ?kk ?kr ?ku ?kC N2 l1.1 l2.1 ?hnil ?hcons)
          case kB => assumption
          case kX => assumption
          case kT => assumption
          case kk => rfl
          case kr => ktr_room
          case ku => ktr_units
          case kC => assumption
          case hnil =>
            intro e
            subst e
            cases hrun1
          case hcons =>
            intro hne h3 tk3 tl3 us tc hus F3 N3
            cases st1 with
            | nil => exact absurd rfl hne
            | cons c st2 =>
              dsimp only [List.headD_cons, List.tail_cons] at hus N3
              dsimp only [List.headD_cons]
              rw [List.count_cons] at hln1
              rw [List.length_cons] at hl1 hz1
              have h82 : st2.all (· < 0x110000) = true := by
                rw [List.all_cons, Bool.and_eq_true] at h81; exact h81.2
              have hln2 : (ln1 + if c = 10 then 1 else 0) + (st2.count 10 : Nat) = ln + (st.count 10 : Nat) := by
                by_cases hc : c = 10 <;> simp [hc] at hln1 ⊢ <;> omega
              refine ⟨m1, F3, fun h4 F4 N4 => ?_⟩
              have N5 := N4 _ N3
              clear N4 N3 F3 N2 F2
              k_steps
              · rename (S [c] == PySem.Str.ofString "\"") = true => hq
                rw [quote_iff] at hq
                replace hq := of_decide_eq_true hq
                subst hq
                have e : some (tok1, st2) = some (tok, rest) := by rw [q_quote] at hrun1; exact hrun1
                cases e
                rename News _ _ _ _ => N9
                have N9 := news_tail (news_tail N9)
                exact hret _ _ _ _ (by assumption) N9 (mc_kept (by assumption) (by assumption)) ⟨_, _, _, _, _, rfl, rfl, hus, hln2⟩
              · rename (S [c] == PySem.Str.ofString "\"") = false => hq
                rw [quote_iff] at hq
                replace hq := of_decide_eq_false hq
                rename (S [c] == PySem.Str.ofString "\\") = true => hb
                rw [back_iff] at hb
                replace hb := of_decide_eq_true hb
                cases st2 with
                | nil => (rw [hb] at hrun1); first | (rw [q_back0] at hrun1; cases hrun1) | (rw [p_back0] at hrun1; cases hrun1) | (rw [g_back0] at hrun1; cases hrun1)
                | cons d st3 =>
                  rename News _ _ _ _ => N6
                  rename Fr _ _ _ _ => F6
                  have hr3 : qrun st3 (tok1 ++ [d]) = some (tok, rest) := by rw [hb, q_back] at hrun1; exact hrun1
                  refine Stop9.go (wpAny_call ?_)
                  k_dflt (refine' RC2 (own := [_, _]) hus ?hl h82 (by simp) ?kB F6 ?kX ?kT ?kk ?kr ?ku ?kC N6 ?ho ?hgo)
                  case kB => assumption
                  case kX => assumption
                  case kT => assumption
                  case kk => rfl
                  case kr => ktr_room
                  case ku => ktr_units
                  case kC => assumption
                  case hl => walk_at "S_nn"
                  case ho =>
                    intro p hp
                    simp only [List.mem_cons, List.not_mem_nil, or_false] at hp
                    rcases hp with rfl | rfl
                    · exact Nat.lt_trans l1.1 l2.1
                    · exact l1.1
                  case hgo =>
                    intro h5 tk5 tl5 us5 tc5 hus5 F7 N7
                    dsimp only [List.headD_cons, List.tail_cons, List.cons_append, List.nil_append] at hus5 N7
                    dsimp only [List.headD_cons]
                    rw [List.count_cons] at hln2
                    simp only [List.length_cons] at hl1 hz1
                    have h83 : st3.all (· < 0x110000) = true := by
                      rw [List.all_cons, Bool.and_eq_true] at h82; exact h82.2
                    have hln3 : ((ln1 + if c = 10 then 1 else 0) + if d = 10 then 1 else 0) + (st3.count 10 : Nat) = ln + (st.count 10 : Nat) := by
                      by_cases hc : d = 10 <;> simp [hc] at hln2 ⊢ <;> omega
                    clear N6 F6
                    k_steps
                    · refine' ⟨_, ?_, i2 _ _ (GInv.intro (P := w.params) (r := r) (tok := (tok1 ++ [d])) ?_ hus5 ?_ h83 ?_ hln3 (by assumption) (by assumption) (by walk_at "S_look") (by walk_at "S_look") (by walk_at "S_look"))⟩
                      · walk_at "S_nn"
                      · exact hr3
                      · walk_at "S_nn"
                      · walk_at "S_nn"
              · rename (S [c] == PySem.Str.ofString "\"") = false => hq
                rw [quote_iff] at hq
                replace hq := of_decide_eq_false hq
                rename (S [c] == PySem.Str.ofString "\\") = false => hb
                rw [back_iff] at hb
                replace hb := of_decide_eq_false hb
                refine' ⟨_, ?_, i2 _ _ (GInv.intro (P := w.params) (r := r) (tok := (tok1 ++ [c])) ?_ hus ?_ h82 ?_ hln2 (by assumption) (by assumption) (by walk_at "S_look") (by walk_at "S_look") (by walk_at "S_look"))⟩
                · walk_at "S_nn"
                · rw [q_plain hq hb] at hrun1; exact hrun1
                · walk_at "S_nn"
                · walk_at "S_nn"
        · rename isWs c = false => hw
          rename (S [c] == PySem.Str.ofString "\"") = false => hq
          rw [quote_iff] at hq
          replace hq := of_decide_eq_false hq
          rename (S [c] == PySem.Str.ofString "\\") = true => hb
          rw [back_iff] at hb
          replace hb := of_decide_eq_true hb
          cases st2 with
          | nil => (rw [hb] at hrun1); first | (rw [q_back0] at hrun1; cases hrun1) | (rw [p_back0] at hrun1; cases hrun1) | (rw [g_back0] at hrun1; cases hrun1)
          | cons d st3 =>
            rename News _ _ _ _ => N6
            rename Fr _ _ _ _ => F6
            have hr3 : prun st3 [d] = some (tok, rest) := by
              rw [hb, g_back] at hrun1; exact hrun1
            refine Stop9.go (wpAny_call ?_)
            k_dflt (refine' RC2 (own := [_, _]) hus ?hl h82 (by simp) ?kB F6 ?kX ?kT ?kk ?kr ?ku ?kC N6 ?ho ?hgo)
            case kB => assumption
            case kX => assumption
            case kT => assumption
            case kk => rfl
            case kr => ktr_room
            case ku => ktr_units
            case kC => assumption
            case hl => walk_at "S_nn"
            case ho =>
              intro p hp
              simp only [List.mem_cons, List.not_mem_nil, or_false] at hp
              rcases hp with rfl | rfl
              · exact Nat.lt_trans l1.1 l2.1
              · exact l1.1
            case hgo =>
              intro h5 tk5 tl5 us5 tc5 hus5 F7 N7
              dsimp only [List.headD_cons, List.tail_cons, List.cons_append, List.nil_append] at hus5 N7
              dsimp only [List.headD_cons]
              rw [List.count_cons] at hln2
              simp only [List.length_cons] at hl1 hz1
              have h83 : st3.all (· < 0x110000) = true := by
                rw [List.all_cons, Bool.and_eq_true] at h82; exact h82.2
              have hln3 : ((ln1 + if c = 10 then 1 else 0) + if d = 10 then 1 else 0) + (st3.count 10 : Nat) = ln + (st.count 10 : Nat) := by
                by_cases hc : d = 10 <;> simp [hc] at hln2 ⊢ <;> omega
              clear N6 F6
              k_steps
              rename News _ _ _ _ => N6
              rename Fr _ _ _ _ => F6
              refine GInv.loop (P := w.params) (r := r) (kp := kp) (tot := ln + st.count 10) (fin := (tok, rest)) (run := prun) (GInv.start F6 N6 (tok := [d]) hr3 hus5 (by walk_at "S_nn") h83 (by walk_at "S_nn") hln3 (by walk_at "S_look") (by walk_at "S_look") (by walk_at "S_look")) fun I9 i1 i2 => ?_
              clear N6 F6 hrun1 hus hus5
              intro n z hi9
              obtain ⟨h1, tk1, st1, tok1, tkk1, ln1, tl1, lf1, kl1, m1, rfl, rfl, hrun1, hlf1, hl1, h81, hz1, hln1, F2, N2, hs, ht, hf⟩ := i1 _ _ hi9
              dsimp only [rdr, List.cons_append, List.nil_append] at N2
              k_dflt (refine' CS (by assumption) (by omega) (by assumption) ?kB F2 ?kX ?kT ?kk ?kr ?ku ?kC N2 l1.1 l2.1 ?hnil ?hcons)
              case kB => assumption
              case kX => assumption
              case kT => assumption
              case kk => rfl
              case kr => ktr_room
              case ku => ktr_units
              case kC => assumption
              case hnil =>
                intro e
                subst e
                cases hrun1
              case hcons =>
                intro hne h3 tk3 tl3 us tc hus F3 N3
                cases st1 with
                | nil => exact absurd rfl hne
                | cons c st2 =>
                  dsimp only [List.headD_cons, List.tail_cons] at hus N3
                  dsimp only [List.headD_cons]
                  rw [List.count_cons] at hln1
                  rw [List.length_cons] at hl1 hz1
                  have h82 : st2.all (· < 0x110000) = true := by
                    rw [List.all_cons, Bool.and_eq_true] at h81; exact h81.2
                  have hln2 : (ln1 + if c = 10 then 1 else 0) + (st2.count 10 : Nat) = ln + (st.count 10 : Nat) := by
                    by_cases hc : c = 10 <;> simp [hc] at hln1 ⊢ <;> omega
                  refine ⟨m1, F3, fun h4 F4 N4 => ?_⟩
                  have N5 := N4 _ N3
                  clear N4 N3 F3 N2 F2
                  k_steps
                  · rename isWs c = true => hw
                    have e : some (tok1, st2) = some (tok, rest) := by rw [p_ws hw] at hrun1; exact hrun1
                    cases e
                    rename News _ _ _ _ => N9
                    have N9 := news_tail (news_tail N9)
                    exact hret _ _ _ _ (by assumption) N9 (mc_kept (by assumption) (by assumption)) ⟨_, _, _, _, _, rfl, rfl, hus, hln2⟩
                  · rename isWs c = false => hw
                    rename (S [c] == PySem.Str.ofString "\\") = true => hb
                    rw [back_iff] at hb
                    replace hb := of_decide_eq_true hb
                    cases st2 with
                    | nil => (rw [hb] at hrun1); first | (rw [q_back0] at hrun1; cases hrun1) | (rw [p_back0] at hrun1; cases hrun1) | (rw [g_back0] at hrun1; cases hrun1)
                    | cons d st3 =>
                      rename News _ _ _ _ => N6
                      rename Fr _ _ _ _ => F6
                      have hr3 : prun st3 (tok1 ++ [d]) = some (tok, rest) := by rw [hb, p_back] at hrun1; exact hrun1
                      refine Stop9.go (wpAny_call ?_)
                      k_dflt (refine' RC2 (own := [_, _]) hus ?hl h82 (by simp) ?kB F6 ?kX ?kT ?kk ?kr ?ku ?kC N6 ?ho ?hgo)
                      case kB => assumption
                      case kX => assumption
                      case kT => assumption
                      case kk => rfl
                      case kr => ktr_room
                      case ku => ktr_units
                      case kC => assumption
                      case hl => walk_at "S_nn"
                      case ho =>
                        intro p hp
                        simp only [List.mem_cons, List.not_mem_nil, or_false] at hp
                        rcases hp with rfl | rfl
                        · exact Nat.lt_trans l1.1 l2.1
                        · exact l1.1
                      case hgo =>
                        intro h5 tk5 tl5 us5 tc5 hus5 F7 N7
                        dsimp only [List.headD_cons, List.tail_cons, List.cons_append, List.nil_append] at hus5 N7
                        dsimp only [List.headD_cons]
                        rw [List.count_cons] at hln2
                        simp only [List.length_cons] at hl1 hz1
                        have h83 : st3.all (· < 0x110000) = true := by
                          rw [List.all_cons, Bool.and_eq_true] at h82; exact h82.2
                        have hln3 : ((ln1 + if c = 10 then 1 else 0) + if d = 10 then 1 else 0) + (st3.count 10 : Nat) = ln + (st.count 10 : Nat) := by
                          by_cases hc : d = 10 <;> simp [hc] at hln2 ⊢ <;> omega
                        clear N6 F6
                        k_steps
                        · refine' ⟨_, ?_, i2 _ _ (GInv.intro (P := w.params) (r := r) (tok := (tok1 ++ [d])) ?_ hus5 ?_ h83 ?_ hln3 (by assumption) (by assumption) (by walk_at "S_look") (by walk_at "S_look") (by walk_at "S_look"))⟩
                          · walk_at "S_nn"
                          · exact hr3
                          · walk_at "S_nn"
                          · walk_at "S_nn"
                  · rename isWs c = false => hw
                    rename (S [c] == PySem.Str.ofString "\\") = false => hb
                    rw [back_iff] at hb
                    replace hb := of_decide_eq_false hb
                    refine' ⟨_, ?_, i2 _ _ (GInv.intro (P := w.params) (r := r) (tok := (tok1 ++ [c])) ?_ hus ?_ h82 ?_ hln2 (by assumption) (by assumption) (by walk_at "S_look") (by walk_at "S_look") (by walk_at "S_look"))⟩
                    · walk_at "S_nn"
                    · rw [p_plain hw hb] at hrun1; exact hrun1
                    · walk_at "S_nn"
                    · walk_at "S_nn"
        · rename isWs c = false => hw
          rename (S [c] == PySem.Str.ofString "\"") = false => hq
          rw [quote_iff] at hq
          replace hq := of_decide_eq_false hq
          rename (S [c] == PySem.Str.ofString "\\") = false => hb
          rw [back_iff] at hb
          replace hb := of_decide_eq_false hb
          rename News _ _ _ _ => N6
          rename Fr _ _ _ _ => F6
          have hr : prun st2 [c] = some (tok, rest) := by
            rw [g_plain hw hq hb] at hrun1; exact hrun1
          refine GInv.loop (P := w.params) (r := r) (kp := kp) (tot := ln + st.count 10) (fin := (tok, rest)) (run := prun) (GInv.start F6 N6 (tok := [c]) hr hus (by walk_at "S_nn") h82 (by walk_at "S_nn") hln2 (by walk_at "S_look") (by walk_at "S_look") (by walk_at "S_look")) fun I9 i1 i2 => ?_
          clear N6 F6 hrun1 hus
          intro n z hi9
          obtain ⟨h1, tk1, st1, tok1, tkk1, ln1, tl1, lf1, kl1, m1, rfl, rfl, hrun1, hlf1, hl1, h81, hz1, hln1, F2, N2, hs, ht, hf⟩ := i1 _ _ hi9
          dsimp only [rdr, List.cons_append, List.nil_append] at N2
          k_dflt (refine' CS (by assumption) (by omega) (by assumption) ?kB F2 ?kX ?kT ?kk ?kr ?ku ?kC N2 l1.1 l2.1 ?hnil ?hcons)
          case kB => assumption
          case kX => assumption
          case kT => assumption
          case kk => rfl
          case kr => ktr_room
          case ku => ktr_units
          case kC => assumption
          case hnil =>
            intro e
            subst e
            cases hrun1
          case hcons =>
            intro hne h3 tk3 tl3 us tc hus F3 N3
            cases st1 with
            | nil => exact absurd rfl hne
            | cons c st2 =>
              dsimp only [List.headD_cons, List.tail_cons] at hus N3
              dsimp only [List.headD_cons]
              rw [List.count_cons] at hln1
              rw [List.length_cons] at hl1 hz1
              have h82 : st2.all (· < 0x110000) = true := by
                rw [List.all_cons, Bool.and_eq_true] at h81; exact h81.2
              have hln2 : (ln1 + if c = 10 then 1 else 0) + (st2.count 10 : Nat) = ln + (st.count 10 : Nat) := by
                by_cases hc : c = 10 <;> simp [hc] at hln1 ⊢ <;> omega
              refine ⟨m1, F3, fun h4 F4 N4 => ?_⟩
              have N5 := N4 _ N3
              clear N4 N3 F3 N2 F2
              k_steps
              · rename isWs c = true => hw
                have e : some (tok1, st2) = some (tok, rest) := by rw [p_ws hw] at hrun1; exact hrun1
                cases e
                rename News _ _ _ _ => N9
                have N9 := news_tail (news_tail N9)
                exact hret _ _ _ _ (by assumption) N9 (mc_kept (by assumption) (by assumption)) ⟨_, _, _, _, _, rfl, rfl, hus, hln2⟩
              · rename isWs c = false => hw
                rename (S [c] == PySem.Str.ofString "\\") = true => hb
                rw [back_iff] at hb
                replace hb := of_decide_eq_true hb
                cases st2 with
                | nil => (rw [hb] at hrun1); first | (rw [q_back0] at hrun1; cases hrun1) | (rw [p_back0] at hrun1; cases hrun1) | (rw [g_back0] at hrun1; cases hrun1)
                | cons d st3 =>
                  rename News _ _ _ _ => N6
                  rename Fr _ _ _ _ => F6
                  have hr3 : prun st3 (tok1 ++ [d]) = some (tok, rest) := by rw [hb, p_back] at hrun1; exact hrun1
                  refine Stop9.go (wpAny_call ?_)
                  k_dflt (refine' RC2 (own := [_, _]) hus ?hl h82 (by simp) ?kB F6 ?kX ?kT ?kk ?kr ?ku ?kC N6 ?ho ?hgo)
                  case kB => assumption
                  case kX => assumption
                  case kT => assumption
                  case kk => rfl
                  case kr => ktr_room
                  case ku => ktr_units
                  case kC => assumption
                  case hl => walk_at "S_nn"
                  case ho =>
                    intro p hp
                    simp only [List.mem_cons, List.not_mem_nil, or_false] at hp
                    rcases hp with rfl | rfl
                    · exact Nat.lt_trans l1.1 l2.1
                    · exact l1.1
                  case hgo =>
                    intro h5 tk5 tl5 us5 tc5 hus5 F7 N7
                    dsimp only [List.headD_cons, List.tail_cons, List.cons_append, List.nil_append] at hus5 N7
                    dsimp only [List.headD_cons]
                    rw [List.count_cons] at hln2
                    simp only [List.length_cons] at hl1 hz1
                    have h83 : st3.all (· < 0x110000) = true := by
                      rw [List.all_cons, Bool.and_eq_true] at h82; exact h82.2
                    have hln3 : ((ln1 + if c = 10 then 1 else 0) + if d = 10 then 1 else 0) + (st3.count 10 : Nat) = ln + (st.count 10 : Nat) := by
                      by_cases hc : d = 10 <;> simp [hc] at hln2 ⊢ <;> omega
                    clear N6 F6
                    k_steps
                    · refine' ⟨_, ?_, i2 _ _ (GInv.intro (P := w.params) (r := r) (tok := (tok1 ++ [d])) ?_ hus5 ?_ h83 ?_ hln3 (by assumption) (by assumption) (by walk_at "S_look") (by walk_at "S_look") (by walk_at "S_look"))⟩
                      · walk_at "S_nn"
                      · exact hr3
                      · walk_at "S_nn"
                      · walk_at "S_nn"
              · rename isWs c = false => hw
                rename (S [c] == PySem.Str.ofString "\\") = false => hb
                rw [back_iff] at hb
                replace hb := of_decide_eq_false hb
                refine' ⟨_, ?_, i2 _ _ (GInv.intro (P := w.params) (r := r) (tok := (tok1 ++ [c])) ?_ hus ?_ h82 ?_ hln2 (by assumption) (by assumption) (by walk_at "S_look") (by walk_at "S_look") (by walk_at "S_look"))⟩
                · walk_at "S_nn"
                · rw [p_plain hw hb] at hrun1; exact hrun1
                · walk_at "S_nn"
                · walk_at "S_nn"
  · cases hrun1
end
section
example : True := by
  k_with_none
  w_top off
  k_with "olt" => (first | assumption | ((fail_if_success refine oM ?_); refine oL ?_; k_extra "ole") | k_extra "olh")
  k_with "olh" => (refine oH (by assumption) (by k_extra "ole"))
  k_with "ole" => (first | exact Nat.le_refl _ | assumption | exact oB | ((first | refine oA ?_ | refine oA2 ?_ | refine oA3 ?_); k_extra "ocl") | (refine oS ?_; k_extra "ole") | (refine Nat.le_of_lt ?_; (first | assumption | k_extra "olh")) | exact oE)
  k_with "olt2" => (first | k_extra "oas" | ((fail_if_success refine oM ?_); refine oL ?_; k_extra "ole2") | k_extra "olh2")
  k_with "olh2" => (refine oH (by k_extra "oas") (by k_extra "ole2"))
  k_with "ole2" => (first | exact Nat.le_refl _ | k_extra "oas" | exact oB | ((first | refine oA ?_ | refine oA2 ?_ | refine oA3 ?_); k_extra "ocl") | (refine oS ?_; k_extra "ole2") | (refine Nat.le_of_lt ?_; (first | k_extra "oas" | k_extra "olh2")) | exact oE)
  k_with "opu" => (first | exact oB | exact Nat.le_refl _ | (refine oS ?_; k_extra "opu"))
  k_with "olt0" => (refine oL ?_; k_extra "opu")
  k_with "one" => (first | (refine Nat.ne_of_gt ?_; (fail_if_success refine oM ?_); k_extra "olt0") | (refine Nat.ne_of_lt ?_; (fail_if_success refine oM ?_); k_extra "olt0") | exact Ne.symm (by assumption) | (refine Nat.ne_of_gt ?_; (fail_if_success refine oM ?_); k_extra "oas") | (refine Nat.ne_of_lt ?_; (fail_if_success refine oM ?_); k_extra "oas") | (refine Nat.ne_of_gt ?_; (fail_if_success refine oM ?_); k_extra "odd") | (refine Nat.ne_of_lt ?_; (fail_if_success refine oM ?_); k_extra "odd") | (refine Nat.ne_of_gt ?_; (fail_if_success refine oM ?_); k_extra "olt") | (refine Nat.ne_of_lt ?_; (fail_if_success refine oM ?_); k_extra "olt") | (refine Nat.ne_of_gt ?_; (fail_if_success refine oM ?_); k_extra "olt2") | (refine Nat.ne_of_lt ?_; (fail_if_success refine oM ?_); k_extra "olt2") | decide)
  k_with "ol1" => (first | ((fail_if_success refine oM ?_); first | k_extra "oas" | k_extra "olt0" | k_extra "odd" | k_extra "olt" | k_extra "olt2") | k_extra "ocl" | exact oT0 | exact oT5)
  k_with "oe1" => (first | ((fail_if_success refine oN ?_); first | k_extra "oas" | k_extra "opu" | k_extra "ole" | k_extra "ole2" | exact oE (by k_extra "oas")) | k_extra "ocl" | k_extra "olit" | k_extra "oas")
  k_with "olit" => (first | exact oT4 | exact oP | exact oP2 | exact oT1 | exact oT2 | exact oT3 | exact oQ5 | exact oQ1 | exact oQ2 | exact oQ3 | exact oQ4 | exact oQ6 | exact oD)
  k_with "ocl" => (with_unfolding_all exact Nat.le_of_ble_eq_true rfl)
  k_with "oas" => (first | assumption | exact oa1 | exact ob1 | exact oa2 | exact ob2 | exact oa3 | exact ob3 | exact oa4 | exact ob4 | exact oa5 | exact ob5 | exact oa6 | exact ob6 | exact oa7 | exact ob7)
  k_with "odd" => (first | exact oa1 ob7 | exact oa2 ob7 | exact oa3 ob7 | exact oa4 ob7 | exact oa5 ob7 | exact oa6 ob7 | exact oa7 ob7 | exact oa1 (ob7 ob7) | exact oa2 (ob7 ob7) | exact oa3 (ob7 ob7) | exact oa4 (ob7 ob7) | exact oa5 (ob7 ob7) | exact oa6 (ob7 ob7) | exact oa7 (ob7 ob7) | exact ob1 ob7 | exact ob2 ob7 | exact ob3 ob7 | exact ob4 ob7 | exact ob5 ob7 | exact ob6 ob7 | exact ob7 ob7)
  k_with "oin" => (first | decide | exact oI1 | exact oI3 | exact oI2 (by k_extra "oas"))
  k_with "om" => (with_reducible first | (first | assumption | ((fail_if_success fail_if_success refine oXn ?_); k_extra "one") | ((fail_if_success fail_if_success refine oXl ?_); k_extra "ol1") | ((fail_if_success fail_if_success refine oXe ?_); k_extra "oe1") | k_extra "oin") | fail)
  k_with "S_fit" => (first | omega | ((simp only [S_len, List.length_append, List.length_cons, List.length_nil, List.length_take, List.length_drop, dots, PySem.sizeLine_eq]); omega))
  k_with "call builtin:len" => (((with_reducible show wpAny _ _ (call (Value.builtin "len") [Value.str (S _) _]) _ _ _); refine r_len (by walk_at "S_fit") ?_))
  k_with "call builtin:str.startswith" => (((with_reducible show wpAny _ _ (call (Value.builtin "str.startswith") [Value.str (S _) _, Value.str (S _) _]) _ _ _); refine r_starts ?_))
  k_with "call builtin:str.endswith" => (((with_reducible show wpAny _ _ (call (Value.builtin "str.endswith") [Value.str (S _) _, Value.str (S _) _]) _ _ _); refine r_ends ?_))
  k_with "truthy str" => (((with_reducible show wpAny _ _ (truthy (Value.str (S _) _)) _ _ _); refine r_truthy (by walk_at "S_fit") ?_))
  k_with "exec For Name Name cons nil" => ((k_here; (rename Fr _ _ _ _ => Z6Xa); (with_unfolding_all refine' For_invVF Z6Xa ?Q6Xa ?Q6Xb ?_; (case Q6Xa => exact rfl); (case Q6Xb => exact rfl); k_whole)))
  k_with "pyIter ref" => (((with_reducible show wpAny _ _ (pyIter (Value.ref _)) (fun it s₂ => LoopAtV _ _ _ _ _ _ _ _ _ it s₂) _ _); k_listUnr))
  k_with "S_enter" => ((refine' code_defG (news := []) ?Q8Xa ?Q8Xb ?Q8Xc ?Q8Xd ?Q8Xe ?Q8Xf ?Q8Xg ?Q8Xh ?Q8Xi ?Q8Xj ?Q8Xk ?Q8Xl ?Q8Xm ?_ ?Q8Xn ?Q8Xo ?Q8Xp ?Q8Xq; (case Q8Xf => exact rfl); (case Q8Xg => exact rfl); (case Q8Xh => assumption); (case Q8Xa => k_asm); (case Q8Xb => k_asm); (case Q8Xc => k_asm); (case Q8Xd => exact News.nil); (case Q8Xe => k_asm); (case Q8Xi => k_is); (case Q8Xj => k_is); (case Q8Xk => ktr_room); (case Q8Xl => exact BindsTo.of_eq rfl); (case Q8Xq => decide); (case Q8Xm => exact locs rfl); (case Q8Xn => exact rfl); (case Q8Xo => exact rfl); (case Q8Xp => exact rfl); k_whole; intro Z8Xh Z8Xd Z8Xi Z8Xc Z8Xb Z8Xe Z8Xa Z8Xg Z8Xf Z8Xj; (try dsimp only [List.map_nil] at Z8Xj); (try dsimp only); (try k_lift Z8Xa); (try k_fold)))
  k_with "S_look" => (first | exact rfl | assumption | exact (if_pos rfl) | (refine (if_neg (by decide)).trans ?_; walk_at "S_look"))
  k_with "eval Name" => ((k_here; k_dflt (refine' nameX_L ?QaXa ?QaXb ?_ ?QaXc ?QaXd; (case QaXa => k_asm); (case QaXc => rfl); (case QaXd => rfl); (case QaXb => walk_at "S_look"); k_whole)))
  k_with "S_lit" => (first | (with_reducible exact lit_dots) | (with_reducible rfl))
  k_with "S_nn" => (first | omega | ((simp only [List.length_append, List.length_cons, List.length_nil, List.length_take, List.length_drop, dots] at *); omega))
  k_with "binaryOp Add str str" => (((with_reducible show wpAny _ _ (binaryOp _ (Value.str _ _) (Value.str _ _)) _ _ _); k_dflt (refine r_add (by walk_at "S_lit") (by walk_at "S_lit") (by walk_at "S_fit") ?_); intro _ _))
  k_with "subscriptTail Name Slice str ref" => (((with_reducible show wpAny _ _ (subscriptTail _ (Expr.Slice none (some _) none _) (Value.str (S _) _) _) _ _ _); (with_reducible rename Fr _ _ _ _ => ZeXa); (with_reducible rename News _ _ _ _ => ZeXb); (refine r_sliceTo (s := ⟨_, _, _, _, _⟩) ZeXa ZeXb (by walk_at "S_nn") (by walk_at "S_fit") ?_); intro _ _ _ _ _))
  k_with "subscriptTail Name Slice str ref" => (((with_reducible show wpAny _ _ (subscriptTail _ (Expr.Slice (some _) none none _) (Value.str (S _) _) _) _ _ _); (with_reducible rename Fr _ _ _ _ => ZfXa); (with_reducible rename News _ _ _ _ => ZfXb); (refine r_sliceFrom (s := ⟨_, _, _, _, _⟩) ZfXa ZfXb (by walk_at "S_nn") (by walk_at "S_fit") ?_); intro _ _ _ _ _))
  k_with "exec For Name Call cons nil" => ((k_here; (rename Fr _ _ _ _ => ZgXa); (with_unfolding_all refine' For_invVF ZgXa ?QgXa ?QgXb ?_; (case QgXa => exact rfl); (case QgXb => exact rfl); k_whole)))
  k_with "S_use" => ((refine' pcon_use ?QhXa ?QhXb ?QhXc ?QhXd ?QhXe ?QhXf ?QhXg ?QhXh ?_; (case QhXb => k_asm); (case QhXc => k_asm); (case QhXd => k_asm); (case QhXe => k_asm); (case QhXa => walk_at "S_con"); (case QhXf => first | exact rfl | assumption); (case QhXg => ktr_room); (case QhXh => ktr_units)))
  k_with "call ref" => ((k_here; k_dflt (walk_at "S_use"); intro ZiXf ZiXd ZiXe ZiXb; (have ZiXa := Fr.keeps (by k_asm) ZiXb); (have ZiXc := News.grown (by k_asm) ZiXb); walk_at "S_back" <;> ((try dsimp only); (try k_fold))))
  k_with "pyIter ref" => (k_extra "S_loop")
  k_with "S_bool" => ((intro ZkXa; (rcases bool_or ZkXa with ⟨R8, R7⟩ | ⟨R8, R7⟩) <;> subst R7))
  k_with "call builtin:list.append" => ((k_here; (with_reducible show wpAny _ _ (call (Value.builtin _) [Value.ref _, _]) _ _ _); k_dflt (refine' append_K ?QlXa ?QlXb ?QlXc ?_ ?QlXd; (case QlXa => k_asm); (case QlXb => k_asm); (case QlXc => k_upd); (case QlXd => exact size_ok (k := 100000) (by omega) (by decide)); k_whole); intro ZlXc ZlXa ZlXb; (try k_sweep)))
  k_with "m_k_room" => (ktr_room)
  k_with "m_k_units" => (ktr_units)
  k_with "S_enterM" => ((refine' code_defG ?QoXa ?QoXb ?QoXc ?QoXd ?QoXe ?QoXf ?QoXg ?QoXh ?QoXi ?QoXj ?QoXk ?QoXl ?QoXm ?_ ?QoXn ?QoXo ?QoXp ?QoXq; (case QoXf => exact rfl); (case QoXg => exact rfl); (case QoXh => assumption); (case QoXa => k_asm); (case QoXb => k_asm); (case QoXc => k_asm); (case QoXd => k_asm); (case QoXe => k_asm); (case QoXi => k_is); (case QoXj => k_is); (case QoXk => ktr_room); (case QoXl => exact BindsTo.of_eq rfl); (case QoXq => decide); (case QoXm => exact locs rfl); (case QoXn => exact rfl); (case QoXo => exact rfl); (case QoXp => exact rfl); k_whole; intro ZoXh ZoXd ZoXi ZoXc ZoXb ZoXe ZoXa ZoXg ZoXf ZoXj; (try dsimp only [List.map_nil, List.map_cons] at ZoXj); (try dsimp only); (try k_lift ZoXa); (try k_fold)))
  k_with "callWith" => (((with_reducible show wpAny _ _ (callWith _ (Prod.fst _) (Prod.snd _) _ _) _ _ _); dsimp only))
  k_with "S_int" => (first | omega | decide | ((simp only [List.length_cons, List.length_nil, decide_eq_true_eq, decide_eq_false_iff_not, beq_iff_eq, beq_eq_false_iff_ne, ne_eq, Int.not_lt, Int.not_le] at *); omega))
  k_with "binaryOp FloorDiv int int" => (((with_reducible show wpAny _ _ (binaryOp _ (Value.int _ _) (Value.int _ _)) _ _ _); k_dflt (refine r_fdiv (by walk_at "S_int") (by walk_at "S_int") ?_); intro _ _))
  k_with "binaryOp Mod int int" => (((with_reducible show wpAny _ _ (binaryOp _ (Value.int _ _) (Value.int _ _)) _ _ _); k_dflt (refine r_fmod (by walk_at "S_int") ?_); intro _ _))
  k_with "S_item" => (((with_reducible show wpAny _ _ (subscriptTail _ _ (Value.str (S _) _) (Value.int _ _)) _ _ _); k_dflt (refine r_item (by walk_at "S_int") (by walk_at "S_int") (by walk_at "S_fit") ?_); intro _ _))
  k_with "subscriptTail Name BinOp str int" => (walk_at "S_item")
  k_with "subscriptTail Name Constant str int" => (walk_at "S_item")
  k_with "subscriptTail Name Name str int" => (walk_at "S_item")
  k_with "S_lit" => (first | (with_reducible exact lit_dots) | (with_reducible exact lit_empty) | (with_reducible exact lit34) | (with_reducible exact lit9234) | (with_reducible exact lit92) | (with_reducible exact lit10) | (with_reducible exact lit38) | (with_reducible exact lit59) | (with_reducible rfl))
  k_with "call builtin:str.replace" => (((with_reducible show wpAny _ _ (call (Value.builtin _) [Value.str (S _) _, Value.str _ _, Value.str _ _]) _ _ _); k_dflt (refine r_replace (by walk_at "S_lit") (by walk_at "S_lit") (by decide) (Nat.succ_ne_zero _) (Nat.succ_ne_zero _) (Nat.ne_of_lt (Nat.lt_succ_self _)) (by decide) (by walk_at "S_nn") ?_); intro _ _))
  k_with "call builtin:str.join" => ((k_here; (with_reducible show wpAny _ _ (call (Value.builtin _) [Value.str _ _, Value.ref _]) _ _ _); k_dflt (refine r_join (by walk_at "S_lit") (by walk_at "S_isl") (by walk_at "S_strs") (by walk_at "S_sum") ?_); intro _ _))
  k_with "S_isl" => (first | assumption | exact ⟨LCg.lst _, News.get (by k_asm) (by k_mem), rfl, _, rfl⟩ | is_list)
  k_with "S_strs" => (first | exact StrsAre.nil | assumption | (exact CharsAre.strs (by assumption)))
  k_with "binaryOp Mult str int" => (((with_reducible show wpAny _ _ (binaryOp _ (Value.str (S _) _) (Value.int _ _)) _ _ _); k_dflt (refine r_mul (by walk_at "S_int") (by walk_at "S_int") (by walk_at "S_nn") ?_); intro _ _))
  k_with "S_enterC" => ((refine' code_defCG ?Q13Xa ?Q13Xb ?Q13Xc ?Q13Xd ?Q13Xe ?Q13Xf ?Q13Xg ?Q13Xh ?Q13Xi ?Q13Xj ?Q13Xk ?Q13Xl ?Q13Xm ?Q13Xn ?_ ?Q13Xo ?Q13Xp ?Q13Xq; (case Q13Xf => exact rfl); (case Q13Xg => exact rfl); (case Q13Xh => assumption); (case Q13Xa => k_asm); (case Q13Xb => k_asm); (case Q13Xc => k_asm); (case Q13Xd => k_asm); (case Q13Xe => k_asm); (case Q13Xi => k_is); (case Q13Xj => k_is); (case Q13Xk => ktr_room); (case Q13Xl => exact BindsTo.of_eq rfl); (case Q13Xm => rfl); (case Q13Xn => decide); (case Q13Xo => exact rfl); (case Q13Xp => exact rfl); (case Q13Xq => exact rfl); k_whole; intro Z13Xj Z13Xd Z13Xk Z13Xo Z13Xi Z13Xc Z13Xb Z13Xe Z13Xh Z13Xa Z13Xg Z13Xf Z13Xm Z13Xl Z13Xn; (try dsimp only [List.map_nil, List.map_cons] at Z13Xl); (try k_lt Z13Xm); k_cells Z13Xh; (try simp only [List.cons_append, List.nil_append] at Z13Xe); (try dsimp only); (try k_lift Z13Xa); (try k_fold)))
  k_with "S_lcs" => ((k_here; k_dflt (refine ListComp_S (_F₀ := by k_asm) (by rfl) (by decide) (by rfl) (by decide) (by rfl) ?_)))
  k_with "S_lit" => (first | (with_reducible exact lit_dots) | (with_reducible exact lit_empty) | (with_reducible exact lit34) | (with_reducible exact lit9234) | (with_reducible exact lit92) | (with_reducible exact lit10) | (with_reducible exact lit38) | (with_reducible exact lit59) | (with_reducible exact lit60) | (with_reducible exact lit62) | (with_reducible exact lit13) | (with_reducible exact lit9) | (with_reducible exact litamp) | (with_reducible exact litlt) | (with_reducible exact litgt) | (with_reducible exact litquot) | (with_reducible rfl))
  k_with "S_sum" => (assumption)
  k_with "S_size" => ((rw [PySem.sizeLine_eq]; omega))
  k_with "call builtin:list.pop" => ((k_here; (with_reducible show wpAny _ _ (call (Value.builtin _) [Value.ref _, Value.int _ _]) _ _ _); k_dflt (refine' r_pop0 ?Q18Xa ?Q18Xb ?Q18Xc ?Q18Xd ?_; (case Q18Xa => k_asm); (case Q18Xb => k_asm); (case Q18Xc => k_upd); (case Q18Xd => walk_at "S_size")); (intro Z18Xc Z18Xa Z18Xb)))
  trivial
theorem con_getq {w : World} {p loose mean mg mb} (r : RP) (ok : r.Ok) (ln : Int) (tl : Tok) (kp : Nat) (lf : List Value) (kl : Nat) (x : List Nat) (t : Tok) (pb : List Value) (hpb : pb.length ≤ 10000) :
    MCon 109 107 10 Challenge.pw_sc0056_02 w (hd.heap_1 w.params) p loose mean mg mb 49 [.ref r.aR] (rdr 153 w.params r ln tl (.str (S x) t :: pb) kp lf kl)
      (fun v post => v = .str (S x) t ∧ post = rdr 153 w.params r ln tl pb (kp + 1) lf kl) := by
  obtain ⟨aP, aR, dR, aF, cF, aP2, aS, dS, aL, aC, t1, t2, t3, t4, t5, s0, s1, s2, s3, s4, s5, s6, oc, oC, vs, qt, q, pm, ctv⟩ := r
  obtain ⟨hd1, hd2, hd3, o1, o2, o3, o4, o5, o6, o7, o8, o9⟩ := ok
  dsimp only at hd1 hd2 hd3 o1 o2 o3 o4 o5 o6 o7 o8 o9
  dsimp only [MCon, rdr, rdr7]
  intros
  rename_i hret
  k_dflt (walk_at "S_enterM")
  (try clear sfl)
  k_steps
  all_goals
    (try rename News _ _ _ _ => N9)
    (try rw [List.push_toArray] at N9)
    exact hret _ _ _ _ (by assumption) (by assumption) (mc_kept (by assumption) (by assumption)) ⟨rfl, rfl⟩
theorem con_pushq {w : World} {p loose mean mg mb} (r : RP) (ok : r.Ok) (ln : Int) (tl : Tok) (kp : Nat) (lf : List Value) (kl : Nat) (x : List Nat) (t : Tok) (pb : List Value) (hpb : pb.length ≤ 10000) :
    MCon 109 107 10 Challenge.pw_sc0056_02 w (hd.heap_1 w.params) p loose mean mg mb 56 [.ref r.aR, .str (S x) t] (rdr 153 w.params r ln tl pb kp lf kl)
      (fun v post => v = .none ∧ post = rdr 153 w.params r ln tl (pb ++ [.str (S x) t]) (kp + 1) lf kl) := by
  obtain ⟨aP, aR, dR, aF, cF, aP2, aS, dS, aL, aC, t1, t2, t3, t4, t5, s0, s1, s2, s3, s4, s5, s6, oc, oC, vs, qt, q, pm, ctv⟩ := r
  obtain ⟨hd1, hd2, hd3, o1, o2, o3, o4, o5, o6, o7, o8, o9⟩ := ok
  dsimp only at hd1 hd2 hd3 o1 o2 o3 o4 o5 o6 o7 o8 o9
  dsimp only [MCon, rdr, rdr7]
  intros
  rename_i hret
  k_dflt (walk_at "S_enterM")
  (try clear sfl)
  k_steps
  all_goals
    (try rename News _ _ _ _ => N9)
    (try rw [List.push_toArray] at N9)
    exact hret _ _ _ _ (by assumption) (by assumption) (mc_kept (by assumption) (by assumption)) ⟨rfl, rfl⟩
end
section
local macro_rules | `(tactic| walk_at "zz0") => `(tactic| fail)
local macro_rules | `(tactic| walk_at "zz1") => `(tactic| fail)
local macro_rules | `(tactic| walk_at "zz2") => `(tactic| fail)
example : True := by
  k_with_none
  w_top off
  k_with "olt" => (first | assumption | ((fail_if_success refine oM ?_); refine oL ?_; k_extra "ole") | k_extra "olh")
  k_with "olh" => (refine oH (by assumption) (by k_extra "ole"))
  k_with "ole" => (first | exact Nat.le_refl _ | assumption | exact oB | ((first | refine oA ?_ | refine oA2 ?_ | refine oA3 ?_); k_extra "ocl") | (refine oS ?_; k_extra "ole") | (refine Nat.le_of_lt ?_; (first | assumption | k_extra "olh")) | exact oE)
  k_with "olt2" => (first | k_extra "oas" | ((fail_if_success refine oM ?_); refine oL ?_; k_extra "ole2") | k_extra "olh2")
  k_with "olh2" => (refine oH (by k_extra "oas") (by k_extra "ole2"))
  k_with "ole2" => (first | exact Nat.le_refl _ | k_extra "oas" | exact oB | ((first | refine oA ?_ | refine oA2 ?_ | refine oA3 ?_); k_extra "ocl") | (refine oS ?_; k_extra "ole2") | (refine Nat.le_of_lt ?_; (first | k_extra "oas" | k_extra "olh2")) | exact oE)
  k_with "opu" => (first | exact oB | exact Nat.le_refl _ | (refine oS ?_; k_extra "opu"))
  k_with "olt0" => (refine oL ?_; k_extra "opu")
  k_with "one" => (first | (refine Nat.ne_of_gt ?_; (fail_if_success refine oM ?_); k_extra "olt0") | (refine Nat.ne_of_lt ?_; (fail_if_success refine oM ?_); k_extra "olt0") | exact Ne.symm (by assumption) | (refine Nat.ne_of_gt ?_; (fail_if_success refine oM ?_); k_extra "oas") | (refine Nat.ne_of_lt ?_; (fail_if_success refine oM ?_); k_extra "oas") | (refine Nat.ne_of_gt ?_; (fail_if_success refine oM ?_); k_extra "odd") | (refine Nat.ne_of_lt ?_; (fail_if_success refine oM ?_); k_extra "odd") | (refine Nat.ne_of_gt ?_; (fail_if_success refine oM ?_); k_extra "olt") | (refine Nat.ne_of_lt ?_; (fail_if_success refine oM ?_); k_extra "olt") | (refine Nat.ne_of_gt ?_; (fail_if_success refine oM ?_); k_extra "olt2") | (refine Nat.ne_of_lt ?_; (fail_if_success refine oM ?_); k_extra "olt2") | decide)
  k_with "ol1" => (first | ((fail_if_success refine oM ?_); first | k_extra "oas" | k_extra "olt0" | k_extra "odd" | k_extra "olt" | k_extra "olt2") | k_extra "ocl" | exact oT0 | exact oT5)
  k_with "oe1" => (first | ((fail_if_success refine oN ?_); first | k_extra "oas" | k_extra "opu" | k_extra "ole" | k_extra "ole2" | exact oE (by k_extra "oas")) | k_extra "ocl" | k_extra "olit" | k_extra "oas")
  k_with "olit" => (first | exact oT4 | exact oP | exact oP2 | exact oT1 | exact oT2 | exact oT3 | exact oQ5 | exact oQ1 | exact oQ2 | exact oQ3 | exact oQ4 | exact oQ6 | exact oD)
  k_with "ocl" => (with_unfolding_all exact Nat.le_of_ble_eq_true rfl)
  k_with "oas" => (first | assumption | exact oa1 | exact ob1 | exact oa2 | exact ob2 | exact oa3 | exact ob3 | exact oa4 | exact ob4 | exact oa5 | exact ob5 | exact oa6 | exact ob6 | exact oa7 | exact ob7)
  k_with "odd" => (first | exact oa1 ob7 | exact oa2 ob7 | exact oa3 ob7 | exact oa4 ob7 | exact oa5 ob7 | exact oa6 ob7 | exact oa7 ob7 | exact oa1 (ob7 ob7) | exact oa2 (ob7 ob7) | exact oa3 (ob7 ob7) | exact oa4 (ob7 ob7) | exact oa5 (ob7 ob7) | exact oa6 (ob7 ob7) | exact oa7 (ob7 ob7) | exact ob1 ob7 | exact ob2 ob7 | exact ob3 ob7 | exact ob4 ob7 | exact ob5 ob7 | exact ob6 ob7 | exact ob7 ob7)
  k_with "oin" => (first | decide | exact oI1 | exact oI3 | exact oI2 (by k_extra "oas"))
  k_with "om" => (with_reducible first | (first | assumption | ((fail_if_success fail_if_success refine oXn ?_); k_extra "one") | ((fail_if_success fail_if_success refine oXl ?_); k_extra "ol1") | ((fail_if_success fail_if_success refine oXe ?_); k_extra "oe1") | k_extra "oin") | fail)
  k_with "S_fit" => (first | omega | ((simp only [S_len, List.length_append, List.length_cons, List.length_nil, List.length_take, List.length_drop, dots, PySem.sizeLine_eq]); omega))
  k_with "call builtin:len" => (((with_reducible show wpAny _ _ (call (Value.builtin "len") [Value.str (S _) _]) _ _ _); refine r_len (by walk_at "S_fit") ?_))
  k_with "call builtin:str.startswith" => (((with_reducible show wpAny _ _ (call (Value.builtin "str.startswith") [Value.str (S _) _, Value.str (S _) _]) _ _ _); refine r_starts ?_))
  k_with "call builtin:str.endswith" => (((with_reducible show wpAny _ _ (call (Value.builtin "str.endswith") [Value.str (S _) _, Value.str (S _) _]) _ _ _); refine r_ends ?_))
  k_with "truthy str" => (((with_reducible show wpAny _ _ (truthy (Value.str (S _) _)) _ _ _); refine r_truthy (by walk_at "S_fit") ?_))
  k_with "exec For Name Name cons nil" => ((k_here; (rename Fr _ _ _ _ => Z6Xa); (with_unfolding_all refine' For_invVF Z6Xa ?Q6Xa ?Q6Xb ?_; (case Q6Xa => exact rfl); (case Q6Xb => exact rfl); k_whole)))
  k_with "pyIter ref" => (((with_reducible show wpAny _ _ (pyIter (Value.ref _)) (fun it s₂ => LoopAtV _ _ _ _ _ _ _ _ _ it s₂) _ _); k_listUnr))
  k_with "S_enter" => ((refine' code_defG (news := []) ?Q8Xa ?Q8Xb ?Q8Xc ?Q8Xd ?Q8Xe ?Q8Xf ?Q8Xg ?Q8Xh ?Q8Xi ?Q8Xj ?Q8Xk ?Q8Xl ?Q8Xm ?_ ?Q8Xn ?Q8Xo ?Q8Xp ?Q8Xq; (case Q8Xf => exact rfl); (case Q8Xg => exact rfl); (case Q8Xh => assumption); (case Q8Xa => k_asm); (case Q8Xb => k_asm); (case Q8Xc => k_asm); (case Q8Xd => exact News.nil); (case Q8Xe => k_asm); (case Q8Xi => k_is); (case Q8Xj => k_is); (case Q8Xk => ktr_room); (case Q8Xl => exact BindsTo.of_eq rfl); (case Q8Xq => decide); (case Q8Xm => exact locs rfl); (case Q8Xn => exact rfl); (case Q8Xo => exact rfl); (case Q8Xp => exact rfl); k_whole; intro Z8Xh Z8Xd Z8Xi Z8Xc Z8Xb Z8Xe Z8Xa Z8Xg Z8Xf Z8Xj; (try dsimp only [List.map_nil] at Z8Xj); (try dsimp only); (try k_lift Z8Xa); (try k_fold)))
  k_with "S_look" => (first | exact rfl | assumption | exact (if_pos rfl) | (refine (if_neg (by decide)).trans ?_; walk_at "S_look"))
  k_with "eval Name" => ((k_here; k_dflt (refine' nameX_L ?QaXa ?QaXb ?_ ?QaXc ?QaXd; (case QaXa => k_asm); (case QaXc => rfl); (case QaXd => rfl); (case QaXb => walk_at "S_look"); k_whole)))
  k_with "S_lit" => (first | (with_reducible exact lit_dots) | (with_reducible rfl))
  k_with "S_nn" => (first | omega | ((simp only [List.length_append, List.length_cons, List.length_nil, List.length_take, List.length_drop, dots] at *); omega))
  k_with "binaryOp Add str str" => (((with_reducible show wpAny _ _ (binaryOp _ (Value.str _ _) (Value.str _ _)) _ _ _); k_dflt (refine r_add (by walk_at "S_lit") (by walk_at "S_lit") (by walk_at "S_fit") ?_); intro _ _))
  k_with "subscriptTail Name Slice str ref" => (((with_reducible show wpAny _ _ (subscriptTail _ (Expr.Slice none (some _) none _) (Value.str (S _) _) _) _ _ _); (with_reducible rename Fr _ _ _ _ => ZeXa); (with_reducible rename News _ _ _ _ => ZeXb); (refine r_sliceTo (s := ⟨_, _, _, _, _⟩) ZeXa ZeXb (by walk_at "S_nn") (by walk_at "S_fit") ?_); intro _ _ _ _ _))
  k_with "subscriptTail Name Slice str ref" => (((with_reducible show wpAny _ _ (subscriptTail _ (Expr.Slice (some _) none none _) (Value.str (S _) _) _) _ _ _); (with_reducible rename Fr _ _ _ _ => ZfXa); (with_reducible rename News _ _ _ _ => ZfXb); (refine r_sliceFrom (s := ⟨_, _, _, _, _⟩) ZfXa ZfXb (by walk_at "S_nn") (by walk_at "S_fit") ?_); intro _ _ _ _ _))
  k_with "exec For Name Call cons nil" => ((k_here; (rename Fr _ _ _ _ => ZgXa); (with_unfolding_all refine' For_invVF ZgXa ?QgXa ?QgXb ?_; (case QgXa => exact rfl); (case QgXb => exact rfl); k_whole)))
  k_with "S_use" => ((refine' pcon_use ?QhXa ?QhXb ?QhXc ?QhXd ?QhXe ?QhXf ?QhXg ?QhXh ?_; (case QhXb => k_asm); (case QhXc => k_asm); (case QhXd => k_asm); (case QhXe => k_asm); (case QhXa => walk_at "S_con"); (case QhXf => first | exact rfl | assumption); (case QhXg => ktr_room); (case QhXh => ktr_units)))
  k_with "call ref" => ((k_here; k_dflt (walk_at "S_use"); intro ZiXf ZiXd ZiXe ZiXb; (have ZiXa := Fr.keeps (by k_asm) ZiXb); (have ZiXc := News.grown (by k_asm) ZiXb); walk_at "S_back" <;> ((try dsimp only); (try k_fold))))
  k_with "pyIter ref" => (k_extra "S_loop")
  k_with "S_bool" => ((intro ZkXa; (rcases bool_or ZkXa with ⟨R8, R7⟩ | ⟨R8, R7⟩) <;> subst R7))
  k_with "call builtin:list.append" => ((k_here; (with_reducible show wpAny _ _ (call (Value.builtin _) [Value.ref _, _]) _ _ _); k_dflt (refine' append_K ?QlXa ?QlXb ?QlXc ?_ ?QlXd; (case QlXa => k_asm); (case QlXb => k_asm); (case QlXc => k_upd); (case QlXd => exact size_ok (k := 100000) (by omega) (by decide)); k_whole); intro ZlXc ZlXa ZlXb; (try k_sweep)))
  k_with "m_k_room" => (ktr_room)
  k_with "m_k_units" => (ktr_units)
  k_with "S_enterM" => ((refine' code_defG ?QoXa ?QoXb ?QoXc ?QoXd ?QoXe ?QoXf ?QoXg ?QoXh ?QoXi ?QoXj ?QoXk ?QoXl ?QoXm ?_ ?QoXn ?QoXo ?QoXp ?QoXq; (case QoXf => exact rfl); (case QoXg => exact rfl); (case QoXh => assumption); (case QoXa => k_asm); (case QoXb => k_asm); (case QoXc => k_asm); (case QoXd => k_asm); (case QoXe => k_asm); (case QoXi => k_is); (case QoXj => k_is); (case QoXk => ktr_room); (case QoXl => exact BindsTo.of_eq rfl); (case QoXq => decide); (case QoXm => exact locs rfl); (case QoXn => exact rfl); (case QoXo => exact rfl); (case QoXp => exact rfl); k_whole; intro ZoXh ZoXd ZoXi ZoXc ZoXb ZoXe ZoXa ZoXg ZoXf ZoXj; (try dsimp only [List.map_nil, List.map_cons] at ZoXj); (try dsimp only); (try k_lift ZoXa); (try k_fold)))
  k_with "callWith" => (((with_reducible show wpAny _ _ (callWith _ (Prod.fst _) (Prod.snd _) _ _) _ _ _); dsimp only))
  k_with "S_int" => (first | omega | decide | ((simp only [List.length_cons, List.length_nil, decide_eq_true_eq, decide_eq_false_iff_not, beq_iff_eq, beq_eq_false_iff_ne, ne_eq, Int.not_lt, Int.not_le] at *); omega))
  k_with "binaryOp FloorDiv int int" => (((with_reducible show wpAny _ _ (binaryOp _ (Value.int _ _) (Value.int _ _)) _ _ _); k_dflt (refine r_fdiv (by walk_at "S_int") (by walk_at "S_int") ?_); intro _ _))
  k_with "binaryOp Mod int int" => (((with_reducible show wpAny _ _ (binaryOp _ (Value.int _ _) (Value.int _ _)) _ _ _); k_dflt (refine r_fmod (by walk_at "S_int") ?_); intro _ _))
  k_with "S_item" => (((with_reducible show wpAny _ _ (subscriptTail _ _ (Value.str (S _) _) (Value.int _ _)) _ _ _); k_dflt (refine r_item (by walk_at "S_int") (by walk_at "S_int") (by walk_at "S_fit") ?_); intro _ _))
  k_with "subscriptTail Name BinOp str int" => (walk_at "S_item")
  k_with "subscriptTail Name Constant str int" => (walk_at "S_item")
  k_with "subscriptTail Name Name str int" => (walk_at "S_item")
  k_with "S_lit" => (first | (with_reducible exact lit_dots) | (with_reducible exact lit_empty) | (with_reducible exact lit34) | (with_reducible exact lit9234) | (with_reducible exact lit92) | (with_reducible exact lit10) | (with_reducible exact lit38) | (with_reducible exact lit59) | (with_reducible rfl))
  k_with "call builtin:str.replace" => (((with_reducible show wpAny _ _ (call (Value.builtin _) [Value.str (S _) _, Value.str _ _, Value.str _ _]) _ _ _); k_dflt (refine r_replace (by walk_at "S_lit") (by walk_at "S_lit") (by decide) (Nat.succ_ne_zero _) (Nat.succ_ne_zero _) (Nat.ne_of_lt (Nat.lt_succ_self _)) (by decide) (by walk_at "S_nn") ?_); intro _ _))
  k_with "call builtin:str.join" => ((k_here; (with_reducible show wpAny _ _ (call (Value.builtin _) [Value.str _ _, Value.ref _]) _ _ _); k_dflt (refine r_join (by walk_at "S_lit") (by walk_at "S_isl") (by walk_at "S_strs") (by walk_at "S_sum") ?_); intro _ _))
  k_with "S_isl" => (first | assumption | exact ⟨LCg.lst _, News.get (by k_asm) (by k_mem), rfl, _, rfl⟩ | is_list)
  k_with "S_strs" => (first | exact StrsAre.nil | assumption | (exact CharsAre.strs (by assumption)))
  k_with "binaryOp Mult str int" => (((with_reducible show wpAny _ _ (binaryOp _ (Value.str (S _) _) (Value.int _ _)) _ _ _); k_dflt (refine r_mul (by walk_at "S_int") (by walk_at "S_int") (by walk_at "S_nn") ?_); intro _ _))
  k_with "S_enterC" => ((refine' code_defCG ?Q13Xa ?Q13Xb ?Q13Xc ?Q13Xd ?Q13Xe ?Q13Xf ?Q13Xg ?Q13Xh ?Q13Xi ?Q13Xj ?Q13Xk ?Q13Xl ?Q13Xm ?Q13Xn ?_ ?Q13Xo ?Q13Xp ?Q13Xq; (case Q13Xf => exact rfl); (case Q13Xg => exact rfl); (case Q13Xh => assumption); (case Q13Xa => k_asm); (case Q13Xb => k_asm); (case Q13Xc => k_asm); (case Q13Xd => k_asm); (case Q13Xe => k_asm); (case Q13Xi => k_is); (case Q13Xj => k_is); (case Q13Xk => ktr_room); (case Q13Xl => exact BindsTo.of_eq rfl); (case Q13Xm => rfl); (case Q13Xn => decide); (case Q13Xo => exact rfl); (case Q13Xp => exact rfl); (case Q13Xq => exact rfl); k_whole; intro Z13Xj Z13Xd Z13Xk Z13Xo Z13Xi Z13Xc Z13Xb Z13Xe Z13Xh Z13Xa Z13Xg Z13Xf Z13Xm Z13Xl Z13Xn; (try dsimp only [List.map_nil, List.map_cons] at Z13Xl); (try k_lt Z13Xm); k_cells Z13Xh; (try simp only [List.cons_append, List.nil_append] at Z13Xe); (try dsimp only); (try k_lift Z13Xa); (try k_fold)))
  k_with "S_lcs" => ((k_here; k_dflt (refine ListComp_S (_F₀ := by k_asm) (by rfl) (by decide) (by rfl) (by decide) (by rfl) ?_)))
  k_with "S_lit" => (first | (with_reducible exact lit_dots) | (with_reducible exact lit_empty) | (with_reducible exact lit34) | (with_reducible exact lit9234) | (with_reducible exact lit92) | (with_reducible exact lit10) | (with_reducible exact lit38) | (with_reducible exact lit59) | (with_reducible exact lit60) | (with_reducible exact lit62) | (with_reducible exact lit13) | (with_reducible exact lit9) | (with_reducible exact litamp) | (with_reducible exact litlt) | (with_reducible exact litgt) | (with_reducible exact litquot) | (with_reducible rfl))
  k_with "S_sum" => (assumption)
  k_with "S_esc" => (first
  | refine r_escIf (c0 := 38) (z0 := eAmp) (by decide +kernel) (by decide +kernel) (by decide) (by decide) (by assumption) (by decide) (by k_asm) (by k_asm) rfl ?_
  | refine r_escIf (c0 := 60) (z0 := eLt) (by decide +kernel) (by decide +kernel) (by decide) (by decide) (by assumption) (by decide) (by k_asm) (by k_asm) rfl ?_
  | refine r_escIf (c0 := 62) (z0 := eGt) (by decide +kernel) (by decide +kernel) (by decide) (by decide) (by assumption) (by decide) (by k_asm) (by k_asm) rfl ?_
  | refine r_escIf (c0 := 34) (z0 := eQuot) (by decide +kernel) (by decide +kernel) (by decide) (by decide) (by assumption) (by decide) (by k_asm) (by k_asm) rfl ?_
  | refine r_escIf (c0 := 13) (z0 := e13) (by decide +kernel) (by decide +kernel) (by decide) (by decide) (by assumption) (by decide) (by k_asm) (by k_asm) rfl ?_
  | refine r_escIf (c0 := 10) (z0 := e10) (by decide +kernel) (by decide +kernel) (by decide) (by decide) (by assumption) (by decide) (by k_asm) (by k_asm) rfl ?_
  | refine r_escIf (c0 := 9) (z0 := e09) (by decide +kernel) (by decide +kernel) (by decide) (by decide) (by assumption) (by decide) (by k_asm) (by k_asm) rfl ?_
  | refine r_escIf (c0 := 13) (z0 := exD) (by decide +kernel) (by decide +kernel) (by decide) (by decide) (by assumption) (by decide) (by k_asm) (by k_asm) rfl ?_
  | refine r_escIf (c0 := 10) (z0 := exA) (by decide +kernel) (by decide +kernel) (by decide) (by decide) (by assumption) (by decide) (by k_asm) (by k_asm) rfl ?_
  | refine r_escIf (c0 := 9) (z0 := ex9) (by decide +kernel) (by decide +kernel) (by decide) (by decide) (by assumption) (by decide) (by k_asm) (by k_asm) rfl ?_)
  k_with "exec If" => ((k_dflt (walk_at "S_esc"); intro Z18Xc Z18Xf Z18Xe Z18Xd Z18Xa Z18Xb; (try dsimp only)))
  k_with "S_wr" => ((
  dsimp only [PCon]
  intros
  rename_i hret
  refine wpAny_call ?_
  k_dflt (walk_at "S_enter")
  (try clear sfl)
  k_steps
  all_goals (exact hret _ _ _ (pc_kept (by assumption) (by assumption)) ⟨_, rfl⟩)))
  trivial
theorem con_wr0 {w : World} {p loose mean mg mb} (x : List Nat) (tw : Tok) (hx : x.length ≤ 9) : PCon 2 Challenge.pw_sc0056_02 w (hd.heap_1 w.params) p loose mean mg mb 77 [.str (S x) tw] (fun _ _ v => ∃ t, v = .str (S (wr0 x)) t) := by
  walk_at "S_wr"
theorem con_wr1 {w : World} {p loose mean mg mb} (x : List Nat) (tw : Tok) (hx : x.length ≤ 9) : PCon 2 Challenge.pw_sc0056_02 w (hd.heap_1 w.params) p loose mean mg mb 84 [.str (S x) tw] (fun _ _ v => ∃ t, v = .str (S (wr1 x)) t) := by
  walk_at "S_wr"
theorem con_wr2 {w : World} {p loose mean mg mb} (x : List Nat) (tw : Tok) (hx : x.length ≤ 9) : PCon 2 Challenge.pw_sc0056_02 w (hd.heap_1 w.params) p loose mean mg mb 91 [.str (S x) tw] (fun _ _ v => ∃ t, v = .str (S (wr2 x)) t) := by
  walk_at "S_wr"
theorem con_wr3 {w : World} {p loose mean mg mb} (x : List Nat) (tw : Tok) (hx : x.length ≤ 9) : PCon 2 Challenge.pw_sc0056_02 w (hd.heap_1 w.params) p loose mean mg mb 98 [.str (S x) tw] (fun _ _ v => ∃ t, v = .str (S (wr3 x)) t) := by
  walk_at "S_wr"
theorem con_wr4 {w : World} {p loose mean mg mb} (x : List Nat) (tw : Tok) (hx : x.length ≤ 9) : PCon 2 Challenge.pw_sc0056_02 w (hd.heap_1 w.params) p loose mean mg mb 105 [.str (S x) tw] (fun _ _ v => ∃ t, v = .str (S (wr4 x)) t) := by
  walk_at "S_wr"
end
section
example : True := by
  k_with_none
  w_top off
  k_with "olt" => (first | assumption | ((fail_if_success refine oM ?_); refine oL ?_; k_extra "ole") | k_extra "olh")
  k_with "olh" => (refine oH (by assumption) (by k_extra "ole"))
  k_with "ole" => (first | exact Nat.le_refl _ | assumption | exact oB | ((first | refine oA ?_ | refine oA2 ?_ | refine oA3 ?_); k_extra "ocl") | (refine oS ?_; k_extra "ole") | (refine Nat.le_of_lt ?_; (first | assumption | k_extra "olh")) | exact oE)
  k_with "olt2" => (first | k_extra "oas" | ((fail_if_success refine oM ?_); refine oL ?_; k_extra "ole2") | k_extra "olh2")
  k_with "olh2" => (refine oH (by k_extra "oas") (by k_extra "ole2"))
  k_with "ole2" => (first | exact Nat.le_refl _ | k_extra "oas" | exact oB | ((first | refine oA ?_ | refine oA2 ?_ | refine oA3 ?_); k_extra "ocl") | (refine oS ?_; k_extra "ole2") | (refine Nat.le_of_lt ?_; (first | k_extra "oas" | k_extra "olh2")) | exact oE)
  k_with "opu" => (first | exact oB | exact Nat.le_refl _ | (refine oS ?_; k_extra "opu"))
  k_with "olt0" => (refine oL ?_; k_extra "opu")
  k_with "one" => (first | (refine Nat.ne_of_gt ?_; (fail_if_success refine oM ?_); k_extra "olt0") | (refine Nat.ne_of_lt ?_; (fail_if_success refine oM ?_); k_extra "olt0") | exact Ne.symm (by assumption) | (refine Nat.ne_of_gt ?_; (fail_if_success refine oM ?_); k_extra "oas") | (refine Nat.ne_of_lt ?_; (fail_if_success refine oM ?_); k_extra "oas") | (refine Nat.ne_of_gt ?_; (fail_if_success refine oM ?_); k_extra "odd") | (refine Nat.ne_of_lt ?_; (fail_if_success refine oM ?_); k_extra "odd") | (refine Nat.ne_of_gt ?_; (fail_if_success refine oM ?_); k_extra "olt") | (refine Nat.ne_of_lt ?_; (fail_if_success refine oM ?_); k_extra "olt") | (refine Nat.ne_of_gt ?_; (fail_if_success refine oM ?_); k_extra "olt2") | (refine Nat.ne_of_lt ?_; (fail_if_success refine oM ?_); k_extra "olt2") | decide)
  k_with "ol1" => (first | ((fail_if_success refine oM ?_); first | k_extra "oas" | k_extra "olt0" | k_extra "odd" | k_extra "olt" | k_extra "olt2") | k_extra "ocl" | exact oT0 | exact oT5)
  k_with "oe1" => (first | ((fail_if_success refine oN ?_); first | k_extra "oas" | k_extra "opu" | k_extra "ole" | k_extra "ole2" | exact oE (by k_extra "oas")) | k_extra "ocl" | k_extra "olit" | k_extra "oas")
  k_with "olit" => (first | exact oT4 | exact oP | exact oP2 | exact oT1 | exact oT2 | exact oT3 | exact oQ5 | exact oQ1 | exact oQ2 | exact oQ3 | exact oQ4 | exact oQ6 | exact oD)
  k_with "ocl" => (with_unfolding_all exact Nat.le_of_ble_eq_true rfl)
  k_with "oas" => (first | assumption | exact oa1 | exact ob1 | exact oa2 | exact ob2 | exact oa3 | exact ob3 | exact oa4 | exact ob4 | exact oa5 | exact ob5 | exact oa6 | exact ob6 | exact oa7 | exact ob7)
  k_with "odd" => (first | exact oa1 ob7 | exact oa2 ob7 | exact oa3 ob7 | exact oa4 ob7 | exact oa5 ob7 | exact oa6 ob7 | exact oa7 ob7 | exact oa1 (ob7 ob7) | exact oa2 (ob7 ob7) | exact oa3 (ob7 ob7) | exact oa4 (ob7 ob7) | exact oa5 (ob7 ob7) | exact oa6 (ob7 ob7) | exact oa7 (ob7 ob7) | exact ob1 ob7 | exact ob2 ob7 | exact ob3 ob7 | exact ob4 ob7 | exact ob5 ob7 | exact ob6 ob7 | exact ob7 ob7)
  k_with "oin" => (first | decide | exact oI1 | exact oI3 | exact oI2 (by k_extra "oas"))
  k_with "om" => (with_reducible first | (first | assumption | ((fail_if_success fail_if_success refine oXn ?_); k_extra "one") | ((fail_if_success fail_if_success refine oXl ?_); k_extra "ol1") | ((fail_if_success fail_if_success refine oXe ?_); k_extra "oe1") | k_extra "oin") | fail)
  k_with "S_fit" => (first | omega | ((simp only [S_len, List.length_append, List.length_cons, List.length_nil, List.length_take, List.length_drop, dots, PySem.sizeLine_eq]); omega))
  k_with "call builtin:len" => (((with_reducible show wpAny _ _ (call (Value.builtin "len") [Value.str (S _) _]) _ _ _); refine r_len (by walk_at "S_fit") ?_))
  k_with "call builtin:str.startswith" => (((with_reducible show wpAny _ _ (call (Value.builtin "str.startswith") [Value.str (S _) _, Value.str (S _) _]) _ _ _); refine r_starts ?_))
  k_with "call builtin:str.endswith" => (((with_reducible show wpAny _ _ (call (Value.builtin "str.endswith") [Value.str (S _) _, Value.str (S _) _]) _ _ _); refine r_ends ?_))
  k_with "truthy str" => (((with_reducible show wpAny _ _ (truthy (Value.str (S _) _)) _ _ _); refine r_truthy (by walk_at "S_fit") ?_))
  k_with "exec For Name Name cons nil" => ((k_here; (rename Fr _ _ _ _ => Z6Xa); (with_unfolding_all refine' For_invVF Z6Xa ?Q6Xa ?Q6Xb ?_; (case Q6Xa => exact rfl); (case Q6Xb => exact rfl); k_whole)))
  k_with "pyIter ref" => (((with_reducible show wpAny _ _ (pyIter (Value.ref _)) (fun it s₂ => LoopAtV _ _ _ _ _ _ _ _ _ it s₂) _ _); k_listUnr))
  k_with "S_enter" => ((refine' code_defG (news := []) ?Q8Xa ?Q8Xb ?Q8Xc ?Q8Xd ?Q8Xe ?Q8Xf ?Q8Xg ?Q8Xh ?Q8Xi ?Q8Xj ?Q8Xk ?Q8Xl ?Q8Xm ?_ ?Q8Xn ?Q8Xo ?Q8Xp ?Q8Xq; (case Q8Xf => exact rfl); (case Q8Xg => exact rfl); (case Q8Xh => assumption); (case Q8Xa => k_asm); (case Q8Xb => k_asm); (case Q8Xc => k_asm); (case Q8Xd => exact News.nil); (case Q8Xe => k_asm); (case Q8Xi => k_is); (case Q8Xj => k_is); (case Q8Xk => ktr_room); (case Q8Xl => exact BindsTo.of_eq rfl); (case Q8Xq => decide); (case Q8Xm => exact locs rfl); (case Q8Xn => exact rfl); (case Q8Xo => exact rfl); (case Q8Xp => exact rfl); k_whole; intro Z8Xh Z8Xd Z8Xi Z8Xc Z8Xb Z8Xe Z8Xa Z8Xg Z8Xf Z8Xj; (try dsimp only [List.map_nil] at Z8Xj); (try dsimp only); (try k_lift Z8Xa); (try k_fold)))
  k_with "S_look" => (first | exact rfl | assumption | exact (if_pos rfl) | (refine (if_neg (by decide)).trans ?_; walk_at "S_look"))
  k_with "eval Name" => ((k_here; k_dflt (refine' nameX_L ?QaXa ?QaXb ?_ ?QaXc ?QaXd; (case QaXa => k_asm); (case QaXc => rfl); (case QaXd => rfl); (case QaXb => walk_at "S_look"); k_whole)))
  k_with "S_lit" => (first | (with_reducible exact lit_dots) | (with_reducible rfl))
  k_with "S_nn" => (first | omega | ((simp only [List.length_append, List.length_cons, List.length_nil, List.length_take, List.length_drop, dots] at *); omega))
  k_with "binaryOp Add str str" => (((with_reducible show wpAny _ _ (binaryOp _ (Value.str _ _) (Value.str _ _)) _ _ _); k_dflt (refine r_add (by walk_at "S_lit") (by walk_at "S_lit") (by walk_at "S_fit") ?_); intro _ _))
  k_with "subscriptTail Name Slice str ref" => (((with_reducible show wpAny _ _ (subscriptTail _ (Expr.Slice none (some _) none _) (Value.str (S _) _) _) _ _ _); (with_reducible rename Fr _ _ _ _ => ZeXa); (with_reducible rename News _ _ _ _ => ZeXb); (refine r_sliceTo (s := ⟨_, _, _, _, _⟩) ZeXa ZeXb (by walk_at "S_nn") (by walk_at "S_fit") ?_); intro _ _ _ _ _))
  k_with "subscriptTail Name Slice str ref" => (((with_reducible show wpAny _ _ (subscriptTail _ (Expr.Slice (some _) none none _) (Value.str (S _) _) _) _ _ _); (with_reducible rename Fr _ _ _ _ => ZfXa); (with_reducible rename News _ _ _ _ => ZfXb); (refine r_sliceFrom (s := ⟨_, _, _, _, _⟩) ZfXa ZfXb (by walk_at "S_nn") (by walk_at "S_fit") ?_); intro _ _ _ _ _))
  k_with "exec For Name Call cons nil" => ((k_here; (rename Fr _ _ _ _ => ZgXa); (with_unfolding_all refine' For_invVF ZgXa ?QgXa ?QgXb ?_; (case QgXa => exact rfl); (case QgXb => exact rfl); k_whole)))
  k_with "S_use" => ((refine' pcon_use ?QhXa ?QhXb ?QhXc ?QhXd ?QhXe ?QhXf ?QhXg ?QhXh ?_; (case QhXb => k_asm); (case QhXc => k_asm); (case QhXd => k_asm); (case QhXe => k_asm); (case QhXa => walk_at "S_con"); (case QhXf => first | exact rfl | assumption); (case QhXg => ktr_room); (case QhXh => ktr_units)))
  k_with "call ref" => ((k_here; k_dflt (walk_at "S_use"); intro ZiXf ZiXd ZiXe ZiXb; (have ZiXa := Fr.keeps (by k_asm) ZiXb); (have ZiXc := News.grown (by k_asm) ZiXb); walk_at "S_back" <;> ((try dsimp only); (try k_fold))))
  k_with "pyIter ref" => (k_extra "S_loop")
  k_with "S_bool" => ((intro ZkXa; (rcases bool_or ZkXa with ⟨R8, R7⟩ | ⟨R8, R7⟩) <;> subst R7))
  k_with "call builtin:list.append" => ((k_here; (with_reducible show wpAny _ _ (call (Value.builtin _) [Value.ref _, _]) _ _ _); k_dflt (refine' append_K ?QlXa ?QlXb ?QlXc ?_ ?QlXd; (case QlXa => k_asm); (case QlXb => k_asm); (case QlXc => k_upd); (case QlXd => exact size_ok (k := 100000) (by omega) (by decide)); k_whole); intro ZlXc ZlXa ZlXb; (try k_sweep)))
  k_with "m_k_room" => (ktr_room)
  k_with "m_k_units" => (ktr_units)
  k_with "S_enterM" => ((refine' code_defG ?QoXa ?QoXb ?QoXc ?QoXd ?QoXe ?QoXf ?QoXg ?QoXh ?QoXi ?QoXj ?QoXk ?QoXl ?QoXm ?_ ?QoXn ?QoXo ?QoXp ?QoXq; (case QoXf => exact rfl); (case QoXg => exact rfl); (case QoXh => assumption); (case QoXa => k_asm); (case QoXb => k_asm); (case QoXc => k_asm); (case QoXd => k_asm); (case QoXe => k_asm); (case QoXi => k_is); (case QoXj => k_is); (case QoXk => ktr_room); (case QoXl => exact BindsTo.of_eq rfl); (case QoXq => decide); (case QoXm => exact locs rfl); (case QoXn => exact rfl); (case QoXo => exact rfl); (case QoXp => exact rfl); k_whole; intro ZoXh ZoXd ZoXi ZoXc ZoXb ZoXe ZoXa ZoXg ZoXf ZoXj; (try dsimp only [List.map_nil, List.map_cons] at ZoXj); (try dsimp only); (try k_lift ZoXa); (try k_fold)))
  k_with "callWith" => (((with_reducible show wpAny _ _ (callWith _ (Prod.fst _) (Prod.snd _) _ _) _ _ _); dsimp only))
  k_with "S_int" => (first | omega | decide | ((simp only [List.length_cons, List.length_nil, decide_eq_true_eq, decide_eq_false_iff_not, beq_iff_eq, beq_eq_false_iff_ne, ne_eq, Int.not_lt, Int.not_le] at *); omega))
  k_with "binaryOp FloorDiv int int" => (((with_reducible show wpAny _ _ (binaryOp _ (Value.int _ _) (Value.int _ _)) _ _ _); k_dflt (refine r_fdiv (by walk_at "S_int") (by walk_at "S_int") ?_); intro _ _))
  k_with "binaryOp Mod int int" => (((with_reducible show wpAny _ _ (binaryOp _ (Value.int _ _) (Value.int _ _)) _ _ _); k_dflt (refine r_fmod (by walk_at "S_int") ?_); intro _ _))
  k_with "S_item" => (((with_reducible show wpAny _ _ (subscriptTail _ _ (Value.str (S _) _) (Value.int _ _)) _ _ _); k_dflt (refine r_item (by walk_at "S_int") (by walk_at "S_int") (by walk_at "S_fit") ?_); intro _ _))
  k_with "subscriptTail Name BinOp str int" => (walk_at "S_item")
  k_with "subscriptTail Name Constant str int" => (walk_at "S_item")
  k_with "subscriptTail Name Name str int" => (walk_at "S_item")
  k_with "S_lit" => (first | (with_reducible exact lit_dots) | (with_reducible exact lit_empty) | (with_reducible exact lit34) | (with_reducible exact lit9234) | (with_reducible exact lit92) | (with_reducible exact lit10) | (with_reducible exact lit38) | (with_reducible exact lit59) | (with_reducible rfl))
  k_with "call builtin:str.replace" => (((with_reducible show wpAny _ _ (call (Value.builtin _) [Value.str (S _) _, Value.str _ _, Value.str _ _]) _ _ _); k_dflt (refine r_replace (by walk_at "S_lit") (by walk_at "S_lit") (by decide) (Nat.succ_ne_zero _) (Nat.succ_ne_zero _) (Nat.ne_of_lt (Nat.lt_succ_self _)) (by decide) (by walk_at "S_nn") ?_); intro _ _))
  k_with "call builtin:str.join" => ((k_here; (with_reducible show wpAny _ _ (call (Value.builtin _) [Value.str _ _, Value.ref _]) _ _ _); k_dflt (refine r_join (by walk_at "S_lit") (by walk_at "S_isl") (by walk_at "S_strs") (by walk_at "S_sum") ?_); intro _ _))
  k_with "S_isl" => (first | assumption | exact ⟨LCg.lst _, News.get (by k_asm) (by k_mem), rfl, _, rfl⟩ | is_list)
  k_with "S_strs" => (first | exact StrsAre.nil | assumption | (exact CharsAre.strs (by assumption)))
  k_with "binaryOp Mult str int" => (((with_reducible show wpAny _ _ (binaryOp _ (Value.str (S _) _) (Value.int _ _)) _ _ _); k_dflt (refine r_mul (by walk_at "S_int") (by walk_at "S_int") (by walk_at "S_nn") ?_); intro _ _))
  k_with "S_enterC" => ((refine' code_defCG ?Q13Xa ?Q13Xb ?Q13Xc ?Q13Xd ?Q13Xe ?Q13Xf ?Q13Xg ?Q13Xh ?Q13Xi ?Q13Xj ?Q13Xk ?Q13Xl ?Q13Xm ?Q13Xn ?_ ?Q13Xo ?Q13Xp ?Q13Xq; (case Q13Xf => exact rfl); (case Q13Xg => exact rfl); (case Q13Xh => assumption); (case Q13Xa => k_asm); (case Q13Xb => k_asm); (case Q13Xc => k_asm); (case Q13Xd => k_asm); (case Q13Xe => k_asm); (case Q13Xi => k_is); (case Q13Xj => k_is); (case Q13Xk => ktr_room); (case Q13Xl => exact BindsTo.of_eq rfl); (case Q13Xm => rfl); (case Q13Xn => decide); (case Q13Xo => exact rfl); (case Q13Xp => exact rfl); (case Q13Xq => exact rfl); k_whole; intro Z13Xj Z13Xd Z13Xk Z13Xo Z13Xi Z13Xc Z13Xb Z13Xe Z13Xh Z13Xa Z13Xg Z13Xf Z13Xm Z13Xl Z13Xn; (try dsimp only [List.map_nil, List.map_cons] at Z13Xl); (try k_lt Z13Xm); k_cells Z13Xh; (try simp only [List.cons_append, List.nil_append] at Z13Xe); (try dsimp only); (try k_lift Z13Xa); (try k_fold)))
  k_with "S_lcs" => ((k_here; k_dflt (refine ListComp_S (_F₀ := by k_asm) (by rfl) (by decide) (by rfl) (by decide) (by rfl) ?_)))
  k_with "S_lit" => (first | (with_reducible exact lit_dots) | (with_reducible exact lit_empty) | (with_reducible exact lit34) | (with_reducible exact lit9234) | (with_reducible exact lit92) | (with_reducible exact lit10) | (with_reducible exact lit38) | (with_reducible exact lit59) | (with_reducible exact lit60) | (with_reducible exact lit62) | (with_reducible exact lit13) | (with_reducible exact lit9) | (with_reducible exact litamp) | (with_reducible exact litlt) | (with_reducible exact litgt) | (with_reducible exact litquot) | (with_reducible rfl))
  k_with "S_sum" => (assumption)
  k_with "call ref" => (refine stop9 ?_)
  k_with "call ref" => ((k_here; k_dflt (walk_at "S_use"); intro Z18Xf Z18Xd Z18Xe Z18Xb; (have Z18Xa := Fr.keeps (by k_asm) Z18Xb); (have Z18Xc := News.grown (by k_asm) Z18Xb); walk_at "S_back" <;> ((try dsimp only); (try k_fold))))
  k_with "S_con" => (exact con_says _ _ _ _ (by assumption) (by assumption) (by assumption) (by assumption))
  k_with "S_back" => ((intro Z1aXb; obtain ⟨Z1aXc, Z1aXa⟩ := Z1aXb; subst Z1aXa))
  k_with "exec While Compare cons nil" => (refine stop9 ?_)
  k_with "exec For Name Name cons nil" => (refine stop9 ?_)
  k_with "S_il2" => (((rename News _ _ _ _ => Z1dXa); exact ⟨_, News.get Z1dXa (by k_mem), rfl, _, rfl⟩))
  k_with "S_subT" => ((intro Z1eXb Z1eXa; repeat first | exact Z1eXa | apply List.mem_cons_of_mem))
  k_with "compareOp Eq ref ref" => ((k_here; (with_reducible show wpAny _ _ (compareOp CmpOp.Eq (Value.ref _) (Value.ref _)) _ _ _); k_dflt (refine' r_eqF ?Q1fXa ?Q1fXb ?Q1fXc ?Q1fXd ?Q1fXe ?Q1fXf ?Q1fXg ?Q1fXh ?Q1fXi ?Q1fXj ?_; (case Q1fXa => walk_at "S_il2"); (case Q1fXb => walk_at "S_il2"); (case Q1fXc => assumption); (case Q1fXd => exact FoundAre.nil); (case Q1fXe => (rename News _ _ _ _ => Z1fXa); exact Z1fXa); (case Q1fXf => walk_at "S_subT"); (case Q1fXg => exact fun q hq => absurd hq List.not_mem_nil); (case Q1fXh => assumption); (case Q1fXi => (intro Z1fXc Z1fXb; cases Z1fXb)); (case Q1fXj => ke_room))))
  k_with "loadName" => ((k_here; k_dflt (refine' ldnX_L ?Q1gXa ?Q1gXb ?_ ?Q1gXc ?Q1gXd; (case Q1gXa => k_asm); (case Q1gXc => rfl); (case Q1gXd => rfl); (case Q1gXb => walk_at "S_look"); k_whole)))
  k_with "compareOp Eq ref ref" => ((k_here; (with_reducible show wpAny _ _ (compareOp CmpOp.Eq (Value.ref _) (Value.ref _)) _ _ _); k_dflt (refine' r_eqIn ?Q1hXa ?Q1hXb ?Q1hXc ?Q1hXd ?_; (case Q1hXa => (rename News _ _ _ _ => Z1hXa); exact Z1hXa); (case Q1hXb => k_mem); (case Q1hXc => k_mem); (case Q1hXd => ke_room))))
  k_with "compareOp NotEq ref ref" => ((k_here; (with_reducible show wpAny _ _ (compareOp CmpOp.NotEq (Value.ref _) (Value.ref _)) _ _ _); k_dflt (refine' r_neOut ?Q1iXa ?Q1iXb ?Q1iXc ?Q1iXd ?_; (case Q1iXa => (rename News _ _ _ _ => Z1iXa); exact Z1iXa); (case Q1iXb => k_mem); (case Q1iXc => k_mem); (case Q1iXd => ke_room))))
  k_with "pyIter ref" => (refine stop9 ?_)
  k_with "m_k_all" => (exact tail7 (by assumption) (by assumption) (by assumption) (Nat.le_refl _) (Nat.le_refl _))
  k_with "subscriptTail Name Slice ref ref" => (((with_reducible show wpAny _ _ (subscriptTail _ (PySem.Expr.Slice none (some _) none _) (Value.ref _) (Value.ref _)) _ _ _); (with_reducible rename Fr _ _ _ _ => Z1lXc); (with_reducible rename News _ _ _ _ => Z1lXe); k_dflt (refine' r_take1 (s := ⟨_, _, _, _, _⟩) Z1lXc Z1lXe (.head _) (by assumption) ?_ (by with_unfolding_all rfl)); intro Z1lXa Z1lXf Z1lXb Z1lXd Z1lXg))
  trivial
theorem tail7 {l : Nat} {P : Params} {r : RP} {lf : List Value} {kl : Nat} {tlx : List (Addr × Obj)} {D c L : Addr} (ok : r.Ok) (la : @LT.lt Nat _ r.aP L) (h : ∀ p ∈ tlx, @LT.lt Nat _ D p.1) (h1 : @LE.le Nat _ L c) (h2 : @LE.le Nat _ c D) : ∀ p ∈ rdr7 l P r lf kl ++ tlx, p.1 ≠ c := fun p hp => by
  rcases List.mem_append.mp hp with hp | hp
  · exact fun e => notin_gt (l := l) (P := P) (ln := 0) (tl := 0) (pb := []) (kp := 0) (lf := lf) (kl := kl) ok (Nat.lt_of_lt_of_le la h1) (e ▸ List.mem_map.mpr ⟨p, .tail _ (.tail _ (.tail _ hp)), rfl⟩)
  · exact tail_ne h h2 p hp
theorem news_fr {g h : Heap} {L : Addr} {x : Addr × Obj} {R tl : List (Addr × Obj)} (N : News g L h (R ++ x :: tl)) : News g L h (x :: (R ++ tl)) := news_sub N fun q hq => by
  rcases List.mem_cons.mp hq with rfl | hq
  · exact List.mem_append_right _ (.head _)
  · rcases List.mem_append.mp hq with hq | hq
    · exact List.mem_append_left _ hq
    · exact List.mem_append_right _ (.tail _ hq)
theorem news_found {g h : Heap} {L : Addr} {x a b y : Addr × Obj} {X R tl : List (Addr × Obj)} (N : News g L h (x :: a :: b :: y :: (X ++ (R ++ tl)))) : News g L h (X ++ (R ++ x :: y :: tl)) := news_sub N fun q hq => by
  rcases List.mem_append.mp hq with hq | hq
  · exact .tail _ (.tail _ (.tail _ (.tail _ (List.mem_append_left _ hq))))
  rcases List.mem_append.mp hq with hq | hq
  · exact .tail _ (.tail _ (.tail _ (.tail _ (List.mem_append_right _ (List.mem_append_left _ hq)))))
  rcases List.mem_cons.mp hq with rfl | hq
  · exact .head _
  rcases List.mem_cons.mp hq with rfl | hq
  · exact .tail _ (.tail _ (.tail _ (.head _)))
  · exact .tail _ (.tail _ (.tail _ (.tail _ (List.mem_append_right _ (List.mem_append_right _ hq)))))
theorem above_two {g h₁ : Heap} {L : Addr} {X R : List (Addr × Obj)} {D T U : Addr} {oT oU : Obj} {tl : List (Addr × Obj)} (_N : News g L h₁ (X ++ (R ++ (T, oT) :: (U, oU) :: tl))) (h : ∀ p ∈ tl, @LT.lt Nat _ D p.1) (hT : @LT.lt Nat _ D T) (hU : @LT.lt Nat _ D U) : ∀ p ∈ (T, oT) :: (U, oU) :: tl, @LT.lt Nat _ D p.1 :=
  List.forall_mem_cons.mpr ⟨hT, List.forall_mem_cons.mpr ⟨hU, h⟩⟩
theorem off_two {D T U : Addr} {oT oU : Obj} {R tl : List (Addr × Obj)} (h : PyProof.Rows.LCg.Off1 D (R ++ tl)) (hT : @Ne Nat T D) (hU : @Ne Nat U D) : PyProof.Rows.LCg.Off1 D (R ++ (T, oT) :: (U, oU) :: tl) := off1_of fun p hp => by
  rcases List.mem_append.mp hp with hp | hp
  · exact off1_mem h _ (List.mem_append_left _ hp)
  rcases List.mem_cons.mp hp with rfl | hp
  · exact hT
  rcases List.mem_cons.mp hp with rfl | hp
  · exact hU
  · exact off1_mem h _ (List.mem_append_right _ hp)
theorem pick_1 (vs : List Value) : slicePick vs.toArray none (some 1) none = (vs.take 1).toArray := by
  rcases vs with _ | ⟨v, r⟩
  · rfl
  · have e : sliceBounds none (some 1) none (v :: r).length = (0, 1, 1) := by
      simp only [sliceBounds, Option.getD_none]
      refine Prod.ext ?_ (Prod.ext ?_ rfl) <;> (simp; try omega)
    unfold slicePick
    rw [List.size_toArray, e]
    have e2 : sliceRange 0 1 1 = [0] := by decide
    dsimp only
    rw [e2]
    rfl
theorem r_take1 {prog : Program} {w : World} {A : Around} {E : Value → Shared → Prop} {s : Shared} {h₀ : Heap} {L l : Addr} {m : PySem.Str → Option Value} {news : List (Addr × Obj)} {vs : List Value} {k : Nat} {u1 : Tok} {ops : List Value} {value slice : PySem.Expr} {Q : Value → Shared → Prop}
    (F : Fr h₀ L s.heap m) (N : News h₀ L s.heap news) (hm : (l, listOf vs.toArray k) ∈ news) (hz : vs.length ≤ 900)
    (h : ∀ D h', Fr h₀ L h' m → News h₀ L h' ((D, listOf (vs.take 1).toArray 0) :: news) → (∀ p ∈ news, p.1 < D) → Q (.ref D) { s with heap := h' })
    (hs : subscripted slice false (.ref l) (.ref s.heap.objs.size) = operate ops (getItem (.ref l) (.ref s.heap.objs.size))) :
    wpAny (model prog w) A (subscriptTail value slice (.ref l) (.ref s.heap.objs.size)) Q E { s with heap := s.heap.push { cls := .type "slice", data := .fields #[.none, .int 1 u1, .none] } } := by
  have hl : s.heap.IsList l vs.toArray := ⟨_, N.get hm, rfl, _, rfl⟩
  refine kba_turn (value' := .Name (PySem.Str.ofString "x") default) (fun r => rfl) (slice_list3 F N hl .none (.int _ _) .none (by decide) (fun h' F' N' => h _ h' F' (by rw [pick_1] at N'; exact N') (fun p hp => Nat.lt_succ_of_lt (Heap.lt_size (N p hp).1))) hs (fun r => rfl) ?_)
  rw [List.size_toArray, sizeLine_eq]; omega
theorem news_end {g h : Heap} {L : Addr} {x y z : Addr × Obj} {R tl tl' : List (Addr × Obj)} (N : News g L h (x :: y :: z :: (R ++ tl))) (hs : ∀ q ∈ tl', q ∈ tl) : News g L h (x :: (R ++ z :: tl')) := news_sub N fun q hq => by
  rcases List.mem_cons.mp hq with rfl | hq
  · exact .head _
  rcases List.mem_append.mp hq with hq | hq
  · exact .tail _ (.tail _ (.tail _ (List.mem_append_left _ hq)))
  rcases List.mem_cons.mp hq with rfl | hq
  · exact .tail _ (.tail _ (.head _))
  · exact .tail _ (.tail _ (.tail _ (List.mem_append_right _ (hs q hq))))
inductive SoonW (w : World) (r : RP) (ln : Int) (tl : Tok) (lf : List Value) (kl : Nat) (ls : List Nat) (Lt : Addr) (lv : List Value) (lk : Nat) (HH TT : List Nat) (most : Nat) (tH tT tm : Tok) (Df : Addr) (n : Nat) (m : PySem.Str → Option Value) (news : List (Addr × Obj)) : Prop
  | mk (q : List (List Nat)) (fd : FD) (pb fv : List Value) (tls : List (Addr × Obj)) (kp kf : Nat) (tw : Tok) : (runS ls HH TT most n (q, fd) = ([], soonL ls HH TT most)) → (wgt ls.length most q ≤ n) → (n ≤ 2197) → (StrsAre pb q) → ((∀ f ∈ q, f.length ≤ most ∧ 46 ∉ f ∧ f.all (· < 0x110000) = true)) → (FoundAre fv tls fd) → ((∀ p ∈ tls, @LT.lt Nat _ Df p.1)) → (Ok8F fd) → (fd.length ≤ 12) → (m (PySem.Str.ofString "machine") = some (.ref r.aR)) → (m (PySem.Str.ofString "letters") = some (.ref Lt)) → (m (PySem.Str.ofString "here") = some (.str (S HH) tH)) → (m (PySem.Str.ofString "there") = some (.str (S TT) tT)) → (m (PySem.Str.ofString "most") = some (.int ((most : Nat) : Int) tm)) → (m (PySem.Str.ofString "found") = some (.ref Df)) → (m (PySem.Str.ofString "waiting") = some (.int ((q.length : Nat) : Int) tw)) → (news = (Df, listOf (fv).toArray kf) :: (Lt, listOf lv.toArray lk) :: (r.aP, listOf (pb).toArray (kp)) :: (r.aR, instObj 59 r.dR) :: (r.dR, dictOf [ent w.params "lineno" r.t1 (.int ln tl), ent w.params "instream" r.t2 (.ref r.aS), ent w.params "whitespace" r.t3 (.str wsT r.t4), ent w.params "pushback" r.t5 (.ref r.aP)] 4) :: (rdr7 153 w.params r lf kl ++ tls)) → SoonW w r ln tl lf kl ls Lt lv lk HH TT most tH tT tm Df n m news
inductive SoonJ (w : World) (r : RP) (ln : Int) (tl : Tok) (lf : List Value) (kl : Nat) (ls : List Nat) (Lt : Addr) (lv : List Value) (lk : Nat) (HH TT : List Nat) (most : Nat) (tH tT tm : Tok) (Df : Addr) (f : List Nat) (tf : Tok) (q' : List (List Nat)) (i : Nat) (m : PySem.Str → Option Value) (news : List (Addr × Obj)) : Prop
  | mk (q2 : List (List Nat)) (fd2 : FD) (pb fv : List Value) (tls : List (Addr × Obj)) (kp kf : Nat) (tw : Tok) : ((ls.take i).foldl (turnS HH TT f) (q', []) = (q2, fd2)) → (StrsAre pb q2) → ((∀ x ∈ q2, x.length ≤ most ∧ 46 ∉ x ∧ x.all (· < 0x110000) = true)) → (q2.length ≤ 2197 + i) → (FoundAre fv tls fd2) → ((∀ p ∈ tls, @LT.lt Nat _ Df p.1)) → (Ok8F fd2) → (fd2.length ≤ i) → (m (PySem.Str.ofString "machine") = some (.ref r.aR)) → (m (PySem.Str.ofString "letters") = some (.ref Lt)) → (m (PySem.Str.ofString "here") = some (.str (S HH) tH)) → (m (PySem.Str.ofString "there") = some (.str (S TT) tT)) → (m (PySem.Str.ofString "most") = some (.int ((most : Nat) : Int) tm)) → (m (PySem.Str.ofString "found") = some (.ref Df)) → (m (PySem.Str.ofString "front") = some (.str (S f) tf)) → (m (PySem.Str.ofString "waiting") = some (.int ((q2.length : Nat) : Int) tw)) → (news = (Df, listOf (fv).toArray kf) :: (Lt, listOf lv.toArray lk) :: (r.aP, listOf (pb).toArray (kp)) :: (r.aR, instObj 59 r.dR) :: (r.dR, dictOf [ent w.params "lineno" r.t1 (.int ln tl), ent w.params "instream" r.t2 (.ref r.aS), ent w.params "whitespace" r.t3 (.str wsT r.t4), ent w.params "pushback" r.t5 (.ref r.aP)] 4) :: (rdr7 153 w.params r lf kl ++ tls)) → SoonJ w r ln tl lf kl ls Lt lv lk HH TT most tH tT tm Df f tf q' i m news
theorem con_soon {w : World} {p loose mean mg mb} (r : RP) (ok : r.Ok) (ln : Int) (tl : Tok) (kp : Nat) (lf : List Value) (kl : Nat) (ls : List Nat) (Lt : Addr) (lv : List Value) (lk : Nat) (hls : CharsAre lv ls) (HH TT : List Nat) (most : Nat) (tH tT tm : Tok)
    (hl : ls.length ≤ 12) (hm : most ≤ 3) (hH : HH.length ≤ 900) (hTT : TT.length ≤ 900) (hfree : 46 ∉ ls) (h8 : ∀ c ∈ ls, c < 128) (hLt : @LT.lt Nat _ r.aP Lt) :
    MCon 109 107 20 Challenge.pw_sc0056_02 w (hd.heap_1 w.params) p loose mean mg mb 134 [.ref r.aR, .ref Lt, .str (S HH) tH, .str (S TT) tT, .int ((most : Nat) : Int) tm] (rdr 153 w.params r ln tl [] kp lf kl ++ [(Lt, listOf lv.toArray lk)])
      (fun v post => ∃ D k kp' fv tls, v = .ref D ∧ FoundAre fv tls ((soonL ls HH TT most).take 1) ∧ post = (D, listOf fv.toArray k) :: (rdr 153 w.params r ln tl [] kp' lf kl ++ (Lt, listOf lv.toArray lk) :: tls)) := by
  dsimp only [MCon, rdr, List.cons_append, List.nil_append]
  intro dp un gd cn cs a0 ccd cl outer A₀ base h₀ L m s Q E hB0 hF0 hX0 hT0 hk hr hu hC hN0 hret
  k_dflt (walk_at "S_enterM")
  (try clear sfl)
  k_steps
  rename Below (ktrTop _ _ _ _ _ _ _ _ _ _) _ _ _ => hB1
  rename Top _ _ _ _ _ _ => hT1
  rename Frag.In _ _ => hX1
  rename GSub _ _ _ => hG1
  refine Stop9.go (wpAny_call ?_)
  rename Fr _ _ _ _ => F5
  rename News _ _ _ _ => N5
  k_dflt (refine con_pushq r ok ln tl kp lf kl [] _ [] (by decide) _ _ _ _ _ _ _ _ _ _ _ _ _ _ ⟨_, _, _, _, _⟩ _ _ hB1 F5 hX1 hT1 ?kk ?kr ?ku hC (news_sub N5 fun q hq => List.mem_append_left [(Lt, listOf lv.toArray lk)] hq) fun v post h1 tk1 F' N' K' R => ?_)
  case kk => rfl
  case kr => ktr_room
  case ku => ktr_units
  obtain ⟨rfl, rfl⟩ := R
  have No := con_own3 (A := []) (B := [(Lt, listOf lv.toArray lk)]) (pre := rdr 153 w.params r ln tl [] kp lf kl) N5 K' N' (fun p hp => absurd hp List.not_mem_nil) (fun p hp => notin_gt ok (by rw [List.mem_singleton.mp hp]; exact hLt))
  clear N5 F5 N' K'
  replace No : News _ _ _ ((Lt, listOf lv.toArray lk) :: (r.aP, listOf ([] ++ [Value.str (S []) _]).toArray (kp + 1)) :: (r.aR, instObj 59 r.dR) :: (r.dR, dictOf [ent w.params "lineno" r.t1 (.int ln tl), ent w.params "instream" r.t2 (.ref r.aS), ent w.params "whitespace" r.t3 (.str wsT r.t4), ent w.params "pushback" r.t5 (.ref r.aP)] 4) :: (rdr7 153 w.params r lf kl ++ [])) := news_fr (R := rdr 153 w.params r ln tl _ (kp + 1) lf kl) No
  (try dsimp only [List.cons_append, List.nil_append])
  k_steps
  refine Stop9.go ?_
  rename Fr _ _ _ _ => F6
  rename News _ _ _ _ => N6
  obtain ⟨Df, rfl⟩ := head_addr N6
  rename @LT.lt Nat _ Lt Df ∧ _ => lDf0
  have lDf := lDf0.2.1
  clear hN0 hF0
  obtain ⟨JW, hJW⟩ : ∃ JW : Nat → (PySem.Str → Option Value) → List (Addr × Obj) → Prop, JW = fun n m news => SoonW w r ln tl lf kl ls Lt lv lk HH TT most tH tT tm Df n m news := ⟨_, rfl⟩
  k_dflt (refine While_inv (J := JW) (n₀ := (ls.length + 1) ^ most) F6 N6 ?start ?turn (by passes_own))
  case start =>
    rw [hJW]
    exact ⟨[[]], [], _, [], [], kp + 1, 0, _, run_soon ls HH TT most, by simp [wgt], Nat.le_trans (Nat.pow_le_pow_left (show ls.length + 1 ≤ 13 by omega) _) (Nat.pow_le_pow_right (show 0 < 13 by decide) hm), .cons _ _ .nil, by simp, .nil, by simp, by simp, by simp, by rfl, by rfl, by rfl, by rfl, by rfl, by rfl, by rfl, rfl⟩
  case turn =>
    clear F6 N6
    rintro n m1 news1 h2 tk2 F1 N1 hjw
    rw [hJW] at hjw
    obtain ⟨q, fd, pb, fv, tls, kp1, kf, tw, e1, e2, e3, e4, e5, e6, e7, e8, e9, n1, n2, n3, n4, n5, n6, n7, rfl⟩ := hjw
    dsimp only
    k_steps
    · rename (0 : Int) < _ => hq0
      obtain ⟨f, q', rfl⟩ : ∃ f q', q = f :: q' := by
        cases q with
        | nil => exact absurd hq0 (by decide)
        | cons f q' => exact ⟨f, q', rfl⟩
      obtain ⟨k, rfl⟩ : ∃ k, n = k + 1 := ⟨n - 1, by have := wgt_len ls.length most (f :: q'); rw [List.length_cons] at this; omega⟩
      have hqb : (f :: q').length ≤ 2197 := Nat.le_trans (wgt_len ls.length most _) (by omega)
      cases e4 with
      | @cons _ tf pb9 _ e4 =>
      rename StrsAre _ q' => e4'
      have hpl := e4'.length
      rw [List.length_cons] at hqb
      obtain ⟨hf1, hf2, hf3⟩ := e5 f (.head _)
      refine Stop9.go (wpAny_call ?_)
      rename Fr _ _ _ _ => F5
      rename News _ _ _ _ => N5
      k_dflt (refine con_getq r ok ln tl kp1 lf kl f tf _ (by omega) _ _ _ _ _ _ _ _ _ _ _ _ _ _ ⟨_, _, _, _, _⟩ _ _ hB1 F5 hX1 hT1 ?kk ?kr ?ku hC (news_sub N5 fun q hq => List.mem_append_right [(Df, listOf fv.toArray kf), (Lt, listOf lv.toArray lk)] (List.mem_append_left tls hq)) fun v post h3 tk3 F' N' K' R => ?_)
      case kk => rfl
      case kr => ktr_room
      case ku => ktr_units
      obtain ⟨rfl, rfl⟩ := R
      have No : News _ _ _ ((Df, listOf (fv).toArray kf) :: (Lt, listOf lv.toArray lk) :: (r.aP, listOf (pb9).toArray (kp1 + 1)) :: (r.aR, instObj 59 r.dR) :: (r.dR, dictOf [ent w.params "lineno" r.t1 (.int ln tl), ent w.params "instream" r.t2 (.ref r.aS), ent w.params "whitespace" r.t3 (.str wsT r.t4), ent w.params "pushback" r.t5 (.ref r.aP)] 4) :: (rdr7 153 w.params r lf kl ++ tls)) := con_own3 (A := [(Df, listOf fv.toArray kf), (Lt, listOf lv.toArray lk)]) (B := tls) N5 K' N' (fun p hp => notin_gt ok (by
        rcases List.mem_cons.mp hp with rfl | hp
        · exact lDf
        · rw [List.mem_singleton.mp hp]; exact hLt)) (fun p hp => notin_gt ok (Nat.lt_trans lDf (e7 p hp)))
      clear N5 F5 N' K'
      (try dsimp only [List.cons_append, List.nil_append])
      k_steps
      · rename decide (fd = []) = true => hfd0
        have hfd : fd = [] := of_decide_eq_true hfd0
        clear hfd0
        rename (f.length : Int) < _ => hfm
        subst hfd
        have hfm' : f.length < most := by omega
        rw [stepS_def, stepS_go rfl hfm'] at e1
        refine Stop9.go ?_
        rename Fr _ _ _ _ => F6
        rename News _ _ _ _ => N6
        k_dflt (refine For_own F6 rfl rfl ?_)
        k_steps
        refine Stop9.go ?_
        have hcw : (((f :: q').length : Nat) : Int) - 1 = ((q'.length : Nat) : Int) := by rw [List.length_cons]; omega
        have hw1 := wgt_step (ls := ls) (H := HH) (T := TT) (f := f) (most := most) (q := q') (fd := [])
        rw [stepS_go rfl hfm'] at hw1
        replace N6 := news_tail N6
        obtain ⟨J, hJ⟩ : ∃ J : Nat → (PySem.Str → Option Value) → List (Addr × Obj) → Prop, J = fun i m news => SoonJ w r ln tl lf kl ls Lt lv lk HH TT most tH tT tm Df f tf q' i m news := ⟨_, rfl⟩
        k_dflt (refine loopL (J := J) rfl F6 N6 (by k_mem) ?hJD ?h00 ?turn2 ?done2)
        case h00 =>
          rw [hJ]
          exact ⟨q', [], _, _, tls, kp1 + 1, kf, _, rfl, e4', fun x hx => e5 x (.tail _ hx), by omega, e6, e7, e8, Nat.le_refl _, by exact n1, by exact n2, by exact n3, by exact n4, by exact n5, by exact n6, by rfl, by rw [← hcw]; rfl, rfl⟩
        case hJD =>
          intro i m news hj
          rw [hJ] at hj
          obtain ⟨_, _, _, _, _, _, _, _, _, _, _, _, _, _, _, _, _, _, _, _, _, _, _, _, rfl⟩ := hj
          k_mem
        case turn2 =>
          clear F6 N6
          intro i v m3 news3 It oI h3 tk3 hi hv hj off lt F2 N2
          have ltP := lt (r.aP, _) (by k_mem)
          have ltD := lt (Df, _) (by k_mem)
          rw [hJ] at hj
          obtain ⟨q2, fd2, pb2, fv2, tls2, kp2, kf2, tw2, b1, b2, b3, b4, b5, b6, b7, b8, m1', m2', m3', m4', m5', m6', m7', m8', rfl⟩ := hj
          obtain ⟨c, tc, rfl, hc⟩ := chars_at hls hv
          have hcm := List.mem_of_getElem? hc
          have hf0 : f ++ [c] ≠ [] := by simp
          have hf100 : (f ++ [c]).length ≤ 100 := by rw [List.length_append, List.length_singleton]; omega
          have hff : 46 ∉ f ++ [c] := by
            intro hq
            rcases List.mem_append.mp hq with hq | hq
            · exact hf2 hq
            · rw [List.mem_singleton] at hq; exact hfree (hq ▸ hcm)
          have hf8 : (f ++ [c]).all (· < 0x110000) = true := by
            have hc8 := h8 c hcm
            rw [List.all_append, hf3, Bool.true_and, List.all_cons, List.all_nil, Bool.and_true]
            exact decide_eq_true (by omega)
          have hil : i < ls.length := (List.getElem?_eq_some_iff.mp hc).1
          have hat := fold_at (H := HH) (T := TT) (f := f) (st := (q', [])) hc
          rw [b1] at hat
          dsimp only [TurnL]
          k_steps
          · rename (subB _ _ && subB _ _) = true => ha
            rw [turn_in ha] at hat
            refine Stop9.go (wpAny_call ?_)
            rename Fr _ _ _ _ => F5
            rename News _ _ _ _ => N5
            have N5' : News _ _ _ ([(It, oI), (Df, listOf fv2.toArray kf2), (Lt, listOf lv.toArray lk)] ++ (rdr 153 w.params r ln tl pb2 kp2 lf kl ++ tls2)) := news_sub N5 (by intro p hp; repeat first | exact hp | apply List.mem_cons_of_mem)
            clear N5
            k_dflt (refine con_pushq r ok ln tl kp2 lf kl (f ++ [c]) _ pb2 (by rw [b2.length]; omega) _ _ _ _ _ _ _ _ _ _ _ _ _ _ ⟨_, _, _, _, _⟩ _ _ hB1 F5 hX1 hT1 ?kk ?kr ?ku hC (news_sub N5' fun q hq => List.mem_append_right _ (List.mem_append_left _ hq)) fun v post h4 tk4 F' N' K' R => ?_)
            case kk => rfl
            case kr => ktr_room
            case ku => ktr_units
            obtain ⟨rfl, rfl⟩ := R
            have No : News _ _ _ ((It, oI) :: (Df, listOf (fv2).toArray kf2) :: (Lt, listOf lv.toArray lk) :: (r.aP, listOf (pb2 ++ [Value.str (S (f ++ [c])) _]).toArray (kp2 + 1)) :: (r.aR, instObj 59 r.dR) :: (r.dR, dictOf [ent w.params "lineno" r.t1 (.int ln tl), ent w.params "instream" r.t2 (.ref r.aS), ent w.params "whitespace" r.t3 (.str wsT r.t4), ent w.params "pushback" r.t5 (.ref r.aP)] 4) :: (rdr7 153 w.params r lf kl ++ tls2)) := con_own3 (A := [(It, oI), (Df, listOf fv2.toArray kf2), (Lt, listOf lv.toArray lk)]) (B := tls2) N5' K' N' (fun p hp => notin_gt ok (by
              rcases List.mem_cons.mp hp with rfl | hp
              · exact ltP
              rcases List.mem_cons.mp hp with rfl | hp
              · exact lDf
              · rw [List.mem_singleton.mp hp]; exact hLt)) (fun p hp => notin_gt ok (Nat.lt_trans lDf (b6 p hp)))
            clear N5' F5 N' K'
            (try dsimp only [List.cons_append, List.nil_append])
            k_steps
            rename Fr _ _ _ _ => F6
            rename News _ _ _ _ => N6
            refine EndL.intro F6 N6 _ (fun q hq => hq) ?_ ?_
            · exact ⟨off.1, off.2.1, off.2.2.1, off.2.2.2.1, off.2.2.2.2.1, off.2.2.2.2.2⟩
            · rw [hJ]
              refine ⟨q2 ++ [f ++ [c]], fd2, pb2 ++ [.str (S (f ++ [c])) _], fv2, tls2, kp2 + 1, kf2, _, hat, b2.append (.cons _ _ .nil), ?_, by rw [List.length_append, List.length_singleton]; omega, b5, b6, b7, by omega, by exact m1', by exact m2', by exact m3', by exact m4', by exact m5', by exact m6', by exact m7', by rw [List.length_append, List.length_singleton]; rfl, rfl⟩
              intro x hx
              rcases List.mem_append.mp hx with hx | hx
              · exact b3 x hx
              · rw [List.mem_singleton.mp hx, List.length_append, List.length_singleton]
                exact ⟨by omega, hff, hf8⟩
          · rename (subB _ _ && subB _ _) = false => ha
            rename (subB _ _ || subB _ _) = true => hb
            have hat2 := turn_found (st := (q2, fd2)) (f := f) (c := c) (H := HH) (T := TT) (by rw [ha]; decide) hb
            rw [hat2.1] at hat
            rename Fr _ _ _ _ => F5
            rename News _ _ _ _ => N5
            rw [hat2.2] at N5
            obtain ⟨T, rfl⟩ := head_addr N5
            obtain ⟨U, rfl⟩ := snd_addr N5
            rename @LT.lt Nat _ _ T ∧ _ => lT
            rename @LT.lt Nat _ It U ∧ _ => lU
            have NA := news_found (X := [(It, oI), (Df, listOf fv2.toArray kf2), (Lt, listOf lv.toArray lk)] ++ [(r.aP, listOf (pb2).toArray (kp2)), (r.aR, instObj 59 r.dR), (r.dR, dictOf [ent w.params "lineno" r.t1 (.int ln tl), ent w.params "instream" r.t2 (.ref r.aS), ent w.params "whitespace" r.t3 (.str wsT r.t4), ent w.params "pushback" r.t5 (.ref r.aP)] 4)]) (R := rdr7 153 w.params r lf kl) (tl := tls2) N5
            clear N5
            have hfl : fv2.length ≤ 12 := by rw [b5.length]; omega
            have hTU := above_two NA b6 lT.2.2.2.2.1 lU.2.1
            dsimp only [List.cons_append, List.nil_append] at NA
            k_steps
            rename Fr _ _ _ _ => F6
            rename News _ _ _ _ => N6
            rw [List.push_toArray] at N6
            refine EndL.intro F6 N6 _ (fun q hq => hq) ?_ ?_
            · exact ⟨off.1, off.2.1, off.2.2.1, off.2.2.2.1, off.2.2.2.2.1, off_two off.2.2.2.2.2 (Nat.ne_of_gt lT.2.2.2.1) (Nat.ne_of_gt lU.1)⟩
            · rw [hJ]
              exact ⟨q2, fd2 ++ [(f ++ [c], subB (f ++ [c]) HH)], pb2, fv2 ++ [.ref T], _, kp2, kf2 + 1, _, hat, b2, b3, by omega, FoundAre.snoc T U _ _ _ _ _ b5, hTU, (fun p hp => by
                rcases List.mem_append.mp hp with hp | hp
                · exact b7 p hp
                · rw [List.mem_singleton.mp hp]; exact hf8), by rw [List.length_append, List.length_singleton]; omega, by exact m1', by exact m2', by exact m3', by exact m4', by exact m5', by exact m6', by exact m7', by exact m8', rfl⟩
          · rename (subB _ _ && subB _ _) = false => ha
            rename (subB _ _ || subB _ _) = false => hb
            rw [turn_none (by rw [ha]; decide) (by rw [hb]; decide)] at hat
            rename Fr _ _ _ _ => F6
            rename News _ _ _ _ => N6
            replace N6 := news_tail (news_tail (news_tail N6))
            refine EndL.intro F6 N6 _ (fun q hq => hq) ?_ ?_
            · exact off
            · rw [hJ]
              exact ⟨q2, fd2, pb2, fv2, tls2, kp2, kf2, _, hat, b2, b3, by omega, b5, b6, b7, by omega, by exact m1', by exact m2', by exact m3', by exact m4', by exact m5', by exact m6', by exact m7', by exact m8', rfl⟩
        case done2 =>
          intro m4 news4 h4 tk4 hj F4 N4
          rw [hJ] at hj
          obtain ⟨q2, fd2, pb2, fv2, tls2, kp2, kf2, tw2, b1, b2, b3, b4, b5, b6, b7, b8, m1', m2', m3', m4', m5', m6', m7', m8', rfl⟩ := hj
          dsimp only
          k_steps
          rw [hls.length, List.take_length] at b1
          rw [b1] at e1 hw1
          dsimp only at hw1
          have hl12 := hls.length
          refine WhileStep.intro F4 N4 (Nat.lt_succ_self k) ?_
          rw [hJW]
          exact ⟨q2, fd2, pb2, fv2, tls2, kp2, kf2, tw2, e1, by omega, by omega, b2, b3, b5, b6, b7, by omega, m1', m2', m3', m4', m5', m6', m8', rfl⟩
      · rename decide (fd = []) = true => hfd0
        rename ¬ (f.length : Int) < _ => hfm
        have hno : ¬ (fd = [] ∧ f.length < most) := fun e => hfm (by omega)
        have hw1 := wgt_step (ls := ls) (H := HH) (T := TT) (f := f) (most := most) (q := q') (fd := fd)
        rw [stepS_no hno] at hw1
        rw [stepS_def, stepS_no hno] at e1
        dsimp only at hw1
        rename Fr _ _ _ _ => F6
        rename News _ _ _ _ => N6
        replace N6 := news_tail N6
        have hcw : (((f :: q').length : Nat) : Int) - 1 = ((q'.length : Nat) : Int) := by rw [List.length_cons]; omega
        refine WhileStep.intro F6 N6 (Nat.lt_succ_self k) ?_
        rw [hJW]
        exact ⟨q', fd, pb9, fv, tls, kp1 + 1, kf, _, e1, by omega, by omega, e4', fun x hx => e5 x (.tail _ hx), e6, e7, e8, e9, by exact n1, by exact n2, by exact n3, by exact n4, by exact n5, by exact n6, by rw [← hcw]; rfl, rfl⟩
      · rename decide (fd = []) = false => hfd0
        have hno : ¬ (fd = [] ∧ f.length < most) := fun e => of_decide_eq_false hfd0 e.1
        have hw1 := wgt_step (ls := ls) (H := HH) (T := TT) (f := f) (most := most) (q := q') (fd := fd)
        rw [stepS_no hno] at hw1
        rw [stepS_def, stepS_no hno] at e1
        dsimp only at hw1
        rename Fr _ _ _ _ => F6
        rename News _ _ _ _ => N6
        replace N6 := news_tail N6
        have hcw : (((f :: q').length : Nat) : Int) - 1 = ((q'.length : Nat) : Int) := by rw [List.length_cons]; omega
        refine WhileStep.intro F6 N6 (Nat.lt_succ_self k) ?_
        rw [hJW]
        exact ⟨q', fd, pb9, fv, tls, kp1 + 1, kf, _, e1, by omega, by omega, e4', fun x hx => e5 x (.tail _ hx), e6, e7, e8, e9, by exact n1, by exact n2, by exact n3, by exact n4, by exact n5, by exact n6, by rw [← hcw]; rfl, rfl⟩
    · rename ¬ (0 : Int) < _ => hq0
      obtain rfl : q = [] := List.length_eq_zero_iff.mp (by omega)
      cases e4
      rw [run_nil] at e1
      obtain rfl : fd = soonL ls HH TT most := congrArg Prod.snd e1
      obtain ⟨tl', f1, f2⟩ := e6.first
      have hfl : fv.length ≤ 900 := by rw [e6.length]; omega
      k_steps
      rename News _ _ _ _ => N9
      exact hret _ _ _ _ (by assumption) (news_end (R := rdr 153 w.params r ln tl [] kp1 lf kl) N9 f2) (mc_kept (by assumption) (by assumption)) ⟨_, _, _, _, _, rfl, f1, rfl⟩
end
section
local macro_rules | `(tactic| walk_at "zz0") => `(tactic| fail)
local macro_rules | `(tactic| walk_at "zz1") => `(tactic| fail)
local macro_rules | `(tactic| walk_at "zz2") => `(tactic| fail)
example : True := by
  k_with_none
  w_top off
  k_with "olt" => (first | assumption | ((fail_if_success refine oM ?_); refine oL ?_; k_extra "ole") | k_extra "olh")
  k_with "olh" => (refine oH (by assumption) (by k_extra "ole"))
  k_with "ole" => (first | exact Nat.le_refl _ | assumption | exact oB | ((first | refine oA ?_ | refine oA2 ?_ | refine oA3 ?_); k_extra "ocl") | (refine oS ?_; k_extra "ole") | (refine Nat.le_of_lt ?_; (first | assumption | k_extra "olh")) | exact oE)
  k_with "olt2" => (first | k_extra "oas" | ((fail_if_success refine oM ?_); refine oL ?_; k_extra "ole2") | k_extra "olh2")
  k_with "olh2" => (refine oH (by k_extra "oas") (by k_extra "ole2"))
  k_with "ole2" => (first | exact Nat.le_refl _ | k_extra "oas" | exact oB | ((first | refine oA ?_ | refine oA2 ?_ | refine oA3 ?_); k_extra "ocl") | (refine oS ?_; k_extra "ole2") | (refine Nat.le_of_lt ?_; (first | k_extra "oas" | k_extra "olh2")) | exact oE)
  k_with "opu" => (first | exact oB | exact Nat.le_refl _ | (refine oS ?_; k_extra "opu"))
  k_with "olt0" => (refine oL ?_; k_extra "opu")
  k_with "one" => (first | (refine Nat.ne_of_gt ?_; (fail_if_success refine oM ?_); k_extra "olt0") | (refine Nat.ne_of_lt ?_; (fail_if_success refine oM ?_); k_extra "olt0") | exact Ne.symm (by assumption) | (refine Nat.ne_of_gt ?_; (fail_if_success refine oM ?_); k_extra "oas") | (refine Nat.ne_of_lt ?_; (fail_if_success refine oM ?_); k_extra "oas") | (refine Nat.ne_of_gt ?_; (fail_if_success refine oM ?_); k_extra "odd") | (refine Nat.ne_of_lt ?_; (fail_if_success refine oM ?_); k_extra "odd") | (refine Nat.ne_of_gt ?_; (fail_if_success refine oM ?_); k_extra "olt") | (refine Nat.ne_of_lt ?_; (fail_if_success refine oM ?_); k_extra "olt") | (refine Nat.ne_of_gt ?_; (fail_if_success refine oM ?_); k_extra "olt2") | (refine Nat.ne_of_lt ?_; (fail_if_success refine oM ?_); k_extra "olt2") | decide)
  k_with "ol1" => (first | ((fail_if_success refine oM ?_); first | k_extra "oas" | k_extra "olt0" | k_extra "odd" | k_extra "olt" | k_extra "olt2") | k_extra "ocl" | exact oT0 | exact oT5)
  k_with "oe1" => (first | ((fail_if_success refine oN ?_); first | k_extra "oas" | k_extra "opu" | k_extra "ole" | k_extra "ole2" | exact oE (by k_extra "oas")) | k_extra "ocl" | k_extra "olit" | k_extra "oas")
  k_with "olit" => (first | exact oT4 | exact oP | exact oP2 | exact oT1 | exact oT2 | exact oT3 | exact oQ5 | exact oQ1 | exact oQ2 | exact oQ3 | exact oQ4 | exact oQ6 | exact oD)
  k_with "ocl" => (with_unfolding_all exact Nat.le_of_ble_eq_true rfl)
  k_with "oas" => (first | assumption | exact oa1 | exact ob1 | exact oa2 | exact ob2 | exact oa3 | exact ob3 | exact oa4 | exact ob4 | exact oa5 | exact ob5 | exact oa6 | exact ob6 | exact oa7 | exact ob7)
  k_with "odd" => (first | exact oa1 ob7 | exact oa2 ob7 | exact oa3 ob7 | exact oa4 ob7 | exact oa5 ob7 | exact oa6 ob7 | exact oa7 ob7 | exact oa1 (ob7 ob7) | exact oa2 (ob7 ob7) | exact oa3 (ob7 ob7) | exact oa4 (ob7 ob7) | exact oa5 (ob7 ob7) | exact oa6 (ob7 ob7) | exact oa7 (ob7 ob7) | exact ob1 ob7 | exact ob2 ob7 | exact ob3 ob7 | exact ob4 ob7 | exact ob5 ob7 | exact ob6 ob7 | exact ob7 ob7)
  k_with "oin" => (first | decide | exact oI1 | exact oI3 | exact oI2 (by k_extra "oas"))
  k_with "om" => (with_reducible first | (first | assumption | ((fail_if_success fail_if_success refine oXn ?_); k_extra "one") | ((fail_if_success fail_if_success refine oXl ?_); k_extra "ol1") | ((fail_if_success fail_if_success refine oXe ?_); k_extra "oe1") | k_extra "oin") | fail)
  k_with "S_fit" => (first | omega | ((simp only [S_len, List.length_append, List.length_cons, List.length_nil, List.length_take, List.length_drop, dots, PySem.sizeLine_eq]); omega))
  k_with "call builtin:len" => (((with_reducible show wpAny _ _ (call (Value.builtin "len") [Value.str (S _) _]) _ _ _); refine r_len (by walk_at "S_fit") ?_))
  k_with "call builtin:str.startswith" => (((with_reducible show wpAny _ _ (call (Value.builtin "str.startswith") [Value.str (S _) _, Value.str (S _) _]) _ _ _); refine r_starts ?_))
  k_with "call builtin:str.endswith" => (((with_reducible show wpAny _ _ (call (Value.builtin "str.endswith") [Value.str (S _) _, Value.str (S _) _]) _ _ _); refine r_ends ?_))
  k_with "truthy str" => (((with_reducible show wpAny _ _ (truthy (Value.str (S _) _)) _ _ _); refine r_truthy (by walk_at "S_fit") ?_))
  k_with "exec For Name Name cons nil" => ((k_here; (rename Fr _ _ _ _ => Z6Xa); (with_unfolding_all refine' For_invVF Z6Xa ?Q6Xa ?Q6Xb ?_; (case Q6Xa => exact rfl); (case Q6Xb => exact rfl); k_whole)))
  k_with "pyIter ref" => (((with_reducible show wpAny _ _ (pyIter (Value.ref _)) (fun it s₂ => LoopAtV _ _ _ _ _ _ _ _ _ it s₂) _ _); k_listUnr))
  k_with "S_enter" => ((refine' code_defG (news := []) ?Q8Xa ?Q8Xb ?Q8Xc ?Q8Xd ?Q8Xe ?Q8Xf ?Q8Xg ?Q8Xh ?Q8Xi ?Q8Xj ?Q8Xk ?Q8Xl ?Q8Xm ?_ ?Q8Xn ?Q8Xo ?Q8Xp ?Q8Xq; (case Q8Xf => exact rfl); (case Q8Xg => exact rfl); (case Q8Xh => assumption); (case Q8Xa => k_asm); (case Q8Xb => k_asm); (case Q8Xc => k_asm); (case Q8Xd => exact News.nil); (case Q8Xe => k_asm); (case Q8Xi => k_is); (case Q8Xj => k_is); (case Q8Xk => ktr_room); (case Q8Xl => exact BindsTo.of_eq rfl); (case Q8Xq => decide); (case Q8Xm => exact locs rfl); (case Q8Xn => exact rfl); (case Q8Xo => exact rfl); (case Q8Xp => exact rfl); k_whole; intro Z8Xh Z8Xd Z8Xi Z8Xc Z8Xb Z8Xe Z8Xa Z8Xg Z8Xf Z8Xj; (try dsimp only [List.map_nil] at Z8Xj); (try dsimp only); (try k_lift Z8Xa); (try k_fold)))
  k_with "S_look" => (first | exact rfl | assumption | exact (if_pos rfl) | (refine (if_neg (by decide)).trans ?_; walk_at "S_look"))
  k_with "eval Name" => ((k_here; k_dflt (refine' nameX_L ?QaXa ?QaXb ?_ ?QaXc ?QaXd; (case QaXa => k_asm); (case QaXc => rfl); (case QaXd => rfl); (case QaXb => walk_at "S_look"); k_whole)))
  k_with "S_lit" => (first | (with_reducible exact lit_dots) | (with_reducible rfl))
  k_with "S_nn" => (first | omega | ((simp only [List.length_append, List.length_cons, List.length_nil, List.length_take, List.length_drop, dots] at *); omega))
  k_with "binaryOp Add str str" => (((with_reducible show wpAny _ _ (binaryOp _ (Value.str _ _) (Value.str _ _)) _ _ _); k_dflt (refine r_add (by walk_at "S_lit") (by walk_at "S_lit") (by walk_at "S_fit") ?_); intro _ _))
  k_with "subscriptTail Name Slice str ref" => (((with_reducible show wpAny _ _ (subscriptTail _ (Expr.Slice none (some _) none _) (Value.str (S _) _) _) _ _ _); (with_reducible rename Fr _ _ _ _ => ZeXa); (with_reducible rename News _ _ _ _ => ZeXb); (refine r_sliceTo (s := ⟨_, _, _, _, _⟩) ZeXa ZeXb (by walk_at "S_nn") (by walk_at "S_fit") ?_); intro _ _ _ _ _))
  k_with "subscriptTail Name Slice str ref" => (((with_reducible show wpAny _ _ (subscriptTail _ (Expr.Slice (some _) none none _) (Value.str (S _) _) _) _ _ _); (with_reducible rename Fr _ _ _ _ => ZfXa); (with_reducible rename News _ _ _ _ => ZfXb); (refine r_sliceFrom (s := ⟨_, _, _, _, _⟩) ZfXa ZfXb (by walk_at "S_nn") (by walk_at "S_fit") ?_); intro _ _ _ _ _))
  k_with "exec For Name Call cons nil" => ((k_here; (rename Fr _ _ _ _ => ZgXa); (with_unfolding_all refine' For_invVF ZgXa ?QgXa ?QgXb ?_; (case QgXa => exact rfl); (case QgXb => exact rfl); k_whole)))
  k_with "S_use" => ((refine' pcon_use ?QhXa ?QhXb ?QhXc ?QhXd ?QhXe ?QhXf ?QhXg ?QhXh ?_; (case QhXb => k_asm); (case QhXc => k_asm); (case QhXd => k_asm); (case QhXe => k_asm); (case QhXa => walk_at "S_con"); (case QhXf => first | exact rfl | assumption); (case QhXg => ktr_room); (case QhXh => ktr_units)))
  k_with "call ref" => ((k_here; k_dflt (walk_at "S_use"); intro ZiXf ZiXd ZiXe ZiXb; (have ZiXa := Fr.keeps (by k_asm) ZiXb); (have ZiXc := News.grown (by k_asm) ZiXb); walk_at "S_back" <;> ((try dsimp only); (try k_fold))))
  k_with "pyIter ref" => (k_extra "S_loop")
  k_with "S_bool" => ((intro ZkXa; (rcases bool_or ZkXa with ⟨R8, R7⟩ | ⟨R8, R7⟩) <;> subst R7))
  k_with "call builtin:list.append" => ((k_here; (with_reducible show wpAny _ _ (call (Value.builtin _) [Value.ref _, _]) _ _ _); k_dflt (refine' append_K ?QlXa ?QlXb ?QlXc ?_ ?QlXd; (case QlXa => k_asm); (case QlXb => k_asm); (case QlXc => k_upd); (case QlXd => exact size_ok (k := 100000) (by omega) (by decide)); k_whole); intro ZlXc ZlXa ZlXb; (try k_sweep)))
  k_with "m_k_room" => (ktr_room)
  k_with "m_k_units" => (ktr_units)
  k_with "S_enterM" => ((refine' code_defG ?QoXa ?QoXb ?QoXc ?QoXd ?QoXe ?QoXf ?QoXg ?QoXh ?QoXi ?QoXj ?QoXk ?QoXl ?QoXm ?_ ?QoXn ?QoXo ?QoXp ?QoXq; (case QoXf => exact rfl); (case QoXg => exact rfl); (case QoXh => assumption); (case QoXa => k_asm); (case QoXb => k_asm); (case QoXc => k_asm); (case QoXd => k_asm); (case QoXe => k_asm); (case QoXi => k_is); (case QoXj => k_is); (case QoXk => ktr_room); (case QoXl => exact BindsTo.of_eq rfl); (case QoXq => decide); (case QoXm => exact locs rfl); (case QoXn => exact rfl); (case QoXo => exact rfl); (case QoXp => exact rfl); k_whole; intro ZoXh ZoXd ZoXi ZoXc ZoXb ZoXe ZoXa ZoXg ZoXf ZoXj; (try dsimp only [List.map_nil, List.map_cons] at ZoXj); (try dsimp only); (try k_lift ZoXa); (try k_fold)))
  k_with "callWith" => (((with_reducible show wpAny _ _ (callWith _ (Prod.fst _) (Prod.snd _) _ _) _ _ _); dsimp only))
  k_with "S_int" => (first | omega | decide | ((simp only [List.length_cons, List.length_nil, decide_eq_true_eq, decide_eq_false_iff_not, beq_iff_eq, beq_eq_false_iff_ne, ne_eq, Int.not_lt, Int.not_le] at *); omega))
  k_with "binaryOp FloorDiv int int" => (((with_reducible show wpAny _ _ (binaryOp _ (Value.int _ _) (Value.int _ _)) _ _ _); k_dflt (refine r_fdiv (by walk_at "S_int") (by walk_at "S_int") ?_); intro _ _))
  k_with "binaryOp Mod int int" => (((with_reducible show wpAny _ _ (binaryOp _ (Value.int _ _) (Value.int _ _)) _ _ _); k_dflt (refine r_fmod (by walk_at "S_int") ?_); intro _ _))
  k_with "S_item" => (((with_reducible show wpAny _ _ (subscriptTail _ _ (Value.str (S _) _) (Value.int _ _)) _ _ _); k_dflt (refine r_item (by walk_at "S_int") (by walk_at "S_int") (by walk_at "S_fit") ?_); intro _ _))
  k_with "subscriptTail Name BinOp str int" => (walk_at "S_item")
  k_with "subscriptTail Name Constant str int" => (walk_at "S_item")
  k_with "subscriptTail Name Name str int" => (walk_at "S_item")
  k_with "S_lit" => (first | (with_reducible exact lit_dots) | (with_reducible exact lit_empty) | (with_reducible exact lit34) | (with_reducible exact lit9234) | (with_reducible exact lit92) | (with_reducible exact lit10) | (with_reducible exact lit38) | (with_reducible exact lit59) | (with_reducible rfl))
  k_with "call builtin:str.replace" => (((with_reducible show wpAny _ _ (call (Value.builtin _) [Value.str (S _) _, Value.str _ _, Value.str _ _]) _ _ _); k_dflt (refine r_replace (by walk_at "S_lit") (by walk_at "S_lit") (by decide) (Nat.succ_ne_zero _) (Nat.succ_ne_zero _) (Nat.ne_of_lt (Nat.lt_succ_self _)) (by decide) (by walk_at "S_nn") ?_); intro _ _))
  k_with "call builtin:str.join" => ((k_here; (with_reducible show wpAny _ _ (call (Value.builtin _) [Value.str _ _, Value.ref _]) _ _ _); k_dflt (refine r_join (by walk_at "S_lit") (by walk_at "S_isl") (by walk_at "S_strs") (by walk_at "S_sum") ?_); intro _ _))
  k_with "S_isl" => (first | assumption | exact ⟨LCg.lst _, News.get (by k_asm) (by k_mem), rfl, _, rfl⟩ | is_list)
  k_with "S_strs" => (first | exact StrsAre.nil | assumption | (exact CharsAre.strs (by assumption)))
  k_with "binaryOp Mult str int" => (((with_reducible show wpAny _ _ (binaryOp _ (Value.str (S _) _) (Value.int _ _)) _ _ _); k_dflt (refine r_mul (by walk_at "S_int") (by walk_at "S_int") (by walk_at "S_nn") ?_); intro _ _))
  k_with "S_enterC" => ((refine' code_defCG ?Q13Xa ?Q13Xb ?Q13Xc ?Q13Xd ?Q13Xe ?Q13Xf ?Q13Xg ?Q13Xh ?Q13Xi ?Q13Xj ?Q13Xk ?Q13Xl ?Q13Xm ?Q13Xn ?_ ?Q13Xo ?Q13Xp ?Q13Xq; (case Q13Xf => exact rfl); (case Q13Xg => exact rfl); (case Q13Xh => assumption); (case Q13Xa => k_asm); (case Q13Xb => k_asm); (case Q13Xc => k_asm); (case Q13Xd => k_asm); (case Q13Xe => k_asm); (case Q13Xi => k_is); (case Q13Xj => k_is); (case Q13Xk => ktr_room); (case Q13Xl => exact BindsTo.of_eq rfl); (case Q13Xm => rfl); (case Q13Xn => decide); (case Q13Xo => exact rfl); (case Q13Xp => exact rfl); (case Q13Xq => exact rfl); k_whole; intro Z13Xj Z13Xd Z13Xk Z13Xo Z13Xi Z13Xc Z13Xb Z13Xe Z13Xh Z13Xa Z13Xg Z13Xf Z13Xm Z13Xl Z13Xn; (try dsimp only [List.map_nil, List.map_cons] at Z13Xl); (try k_lt Z13Xm); k_cells Z13Xh; (try simp only [List.cons_append, List.nil_append] at Z13Xe); (try dsimp only); (try k_lift Z13Xa); (try k_fold)))
  k_with "S_lcs" => ((k_here; k_dflt (refine ListComp_S (_F₀ := by k_asm) (by rfl) (by decide) (by rfl) (by decide) (by rfl) ?_)))
  k_with "S_lit" => (first | (with_reducible exact lit_dots) | (with_reducible exact lit_empty) | (with_reducible exact lit34) | (with_reducible exact lit9234) | (with_reducible exact lit92) | (with_reducible exact lit10) | (with_reducible exact lit38) | (with_reducible exact lit59) | (with_reducible exact lit60) | (with_reducible exact lit62) | (with_reducible exact lit13) | (with_reducible exact lit9) | (with_reducible exact litamp) | (with_reducible exact litlt) | (with_reducible exact litgt) | (with_reducible exact litquot) | (with_reducible rfl))
  k_with "S_sum" => (assumption)
  k_with "S_size" => (((have Z17Xa := CharsAre.length (by assumption)); simp only [PySem.sizeLine_eq]; omega))
  k_with "pyIter str" => ((k_here; (with_reducible show wpAny _ _ (pyIter (Value.str (S _) _)) (CompPost _ _ _ _ _ _ _ _ _) _ _); (rename Fr _ _ _ _ => Z18Xc); (rename News _ _ _ _ => Z18Xd); k_dflt (refine' r_compS (fun Z18Xe => [Z18Xe]) ?Q18Xa Z18Xc Z18Xd ?Q18Xb ?Q18Xc ?Q18Xd; (case Q18Xa => exact rfl); (case Q18Xb => walk_at "S_fit")); (case' Q18Xd => intros); (case' Q18Xc => (intro Z18Xa Z18Xe Z18Xk Z18Xj Z18Xi Z18Xb Z18Xf Z18Xh Z18Xg; refine wpAny_leafK ?_))))
  k_with "subscriptTail Name Slice ref ref" => (((with_reducible show wpAny _ _ (subscriptTail _ (PySem.Expr.Slice none none (some _) _) (Value.ref _) (Value.ref _)) _ _ _); (with_reducible rename Fr _ _ _ _ => Z19Xc); (with_reducible rename News _ _ _ _ => Z19Xe); k_dflt (refine' r_revL (s := ⟨_, _, _, _, _⟩) Z19Xc Z19Xe (by assumption) (by assumption) (by assumption) ?_ (by with_unfolding_all rfl)); intro Z19Xa Z19Xf Z19Xb Z19Xd Z19Xg; (try k_lt Z19Xg)))
  trivial
theorem chars_of : ∀ {l : List Nat} {vs : List Value}, StrsAre vs (l.map fun c => [c]) → CharsAre vs l
  | [], _, h => by cases h; exact .nil
  | c :: l, _, h => by
    rw [List.map_cons] at h
    cases h with
    | cons _ t h => exact .cons c t (chars_of h)
theorem r_revL {prog : Program} {w : World} {A : Around} {E : Value → Shared → Prop} {s : Shared} {h₀ : Heap} {L l : Addr} {m : PySem.Str → Option Value} {news : List (Addr × Obj)} {vs : List Value} {page : List Nat} {uk : Tok} {ops : List Value} {value slice : PySem.Expr} {Q : Value → Shared → Prop}
    (F : Fr h₀ L s.heap m) (N : News h₀ L s.heap news) (hl : s.heap.IsList l vs.toArray) (hS : StrsAre vs (page.map fun c => [c])) (hz : page.length ≤ 900)
    (h : ∀ D h', Fr h₀ L h' m → News h₀ L h' ((D, listOf vs.reverse.toArray 0) :: news) → (∀ p ∈ news, p.1 < D) → Q (.ref D) { s with heap := h' })
    (hs : subscripted slice false (.ref l) (.ref s.heap.objs.size) = operate ops (getItem (.ref l) (.ref s.heap.objs.size))) :
    wpAny (model prog w) A (subscriptTail value slice (.ref l) (.ref s.heap.objs.size)) Q E { s with heap := s.heap.push { cls := .type "slice", data := .fields #[.none, .none, .int (-1) uk] } } := by
  have e := hS.length
  rw [List.length_map] at e
  exact kba_turn (value' := .Name (PySem.Str.ofString "x") default) (fun r => rfl) (krv_lit F N hl (IsPart.int _ _) (by simp) h hs (fun r => rfl) (by rw [List.size_toArray, sizeLine_eq]; omega))
theorem con_reader {w : World} {p loose mean mg mb} (page : List Nat) (tt : Tok) (ht : page.length ≤ 900)
    {dp un : Nat} {gd : Option (List Code)} {cn : PySem.Str} {cs : Scope} {a : Addr} {ccd : Value} {cl : List (PySem.Str × Addr)} {outer : List Env} {A₀ : Around} {base h₀ : Heap} {L : Addr} {m : PySem.Str → Option Value} {s : Shared} {Q E : Value → Shared → Prop}
    (hB : Below A₀ base outer h₀) (hF : Fr h₀ L s.heap m) (hX : (hd.heap_1 w.params).In h₀) (hT : Top p loose mean mg mb h₀) (hk : cs.kind = .function) (hr : dp + 6 < recursionLimit) (hu : un + 16 * 6 < cLine)
    (hC : CodeHd base 109 107) (hN : News h₀ L s.heap [(107, tabObj #[])])
    (hret : ∀ (r : RP) (tl : Tok) (kp : Nat) (lf : List Value) (kl : Nat) (ps : Array Value) (h' : Heap) (tk' : Nat), r.Ok → CharsAre lf page.reverse → Fr h₀ L h' m → News h₀ L h' (rdr 153 w.params r 1 tl [] kp lf kl ++ [(107, tabObj ps)]) → KeptBut [107] s.heap h' →
      (∀ q ∈ rdr 153 w.params r 1 tl [] kp lf kl, @LE.le Nat _ s.heap.objs.size q.1) → Q (.ref r.aR) { s with heap := h', toks := tk' }) :
    wpAny (model Challenge.pw_sc0056_02 w) (ktrTop dp un gd cn cs L a ccd cl outer) (call (.ref 110) [.str (S page) tt]) Q E s := by
  refine wpAny_call ?_
  k_dflt (walk_at "S_enterC")
  (try clear sfl)
  k_steps
  rename News _ _ _ _ => N9
  revert N9
  rename News _ _ _ _ => N8
  intro N9
  rename GSub _ _ _ => G9
  rename StrsAre _ _ => hS9
  have hCh := chars_of hS9
  rename _ = Data.fields _ => hd1
  rename _ = some (Value.str _ _) => hd2
  rename _ = Data.cell (some (Value.ref _)) => hd3
  refine hret (RP.mk _ _ _ _ _ _ _ _ _ _ _ _ _ _ _ _ _ _ _ _ _ _ _ _ _ _ _ _ _) _ _ _ _ _ _ _ (RP.Ok.mk hd1 hd2 hd3 (by dsimp only; omega) (by dsimp only; omega) (by dsimp only; omega) (by dsimp only; omega) (by dsimp only; omega) (by dsimp only; omega) (by dsimp only; omega) (by dsimp only; omega) (by dsimp only; omega)) hCh.reverse (by assumption) N9 (mc_kept G9 (by assumption)) ?fr
  case fr =>
    intro q hq
    rename @LE.le Nat _ _ _ => lz
    simp only [rdr, rdr7, List.mem_cons, List.not_mem_nil, or_false] at hq
    rcases hq with rfl | rfl | rfl | rfl | rfl | rfl | rfl | rfl | rfl | rfl <;> (dsimp only; omega)
end
section
open PyProof.Rows.LCg
section
example : True := by
  k_with_none
  w_top off
  k_with "olt" => (first | assumption | ((fail_if_success refine oM ?_); refine oL ?_; k_extra "ole") | k_extra "olh")
  k_with "olh" => (refine oH (by assumption) (by k_extra "ole"))
  k_with "ole" => (first | exact Nat.le_refl _ | assumption | exact oB | ((first | refine oA ?_ | refine oA2 ?_ | refine oA3 ?_); k_extra "ocl") | (refine oS ?_; k_extra "ole") | (refine Nat.le_of_lt ?_; (first | assumption | k_extra "olh")) | exact oE)
  k_with "olt2" => (first | k_extra "oas" | ((fail_if_success refine oM ?_); refine oL ?_; k_extra "ole2") | k_extra "olh2")
  k_with "olh2" => (refine oH (by k_extra "oas") (by k_extra "ole2"))
  k_with "ole2" => (first | exact Nat.le_refl _ | k_extra "oas" | exact oB | ((first | refine oA ?_ | refine oA2 ?_ | refine oA3 ?_); k_extra "ocl") | (refine oS ?_; k_extra "ole2") | (refine Nat.le_of_lt ?_; (first | k_extra "oas" | k_extra "olh2")) | exact oE)
  k_with "opu" => (first | exact oB | exact Nat.le_refl _ | (refine oS ?_; k_extra "opu"))
  k_with "olt0" => (refine oL ?_; k_extra "opu")
  k_with "one" => (first | (refine Nat.ne_of_gt ?_; (fail_if_success refine oM ?_); k_extra "olt0") | (refine Nat.ne_of_lt ?_; (fail_if_success refine oM ?_); k_extra "olt0") | exact Ne.symm (by assumption) | (refine Nat.ne_of_gt ?_; (fail_if_success refine oM ?_); k_extra "oas") | (refine Nat.ne_of_lt ?_; (fail_if_success refine oM ?_); k_extra "oas") | (refine Nat.ne_of_gt ?_; (fail_if_success refine oM ?_); k_extra "odd") | (refine Nat.ne_of_lt ?_; (fail_if_success refine oM ?_); k_extra "odd") | (refine Nat.ne_of_gt ?_; (fail_if_success refine oM ?_); k_extra "olt") | (refine Nat.ne_of_lt ?_; (fail_if_success refine oM ?_); k_extra "olt") | (refine Nat.ne_of_gt ?_; (fail_if_success refine oM ?_); k_extra "olt2") | (refine Nat.ne_of_lt ?_; (fail_if_success refine oM ?_); k_extra "olt2") | decide)
  k_with "ol1" => (first | ((fail_if_success refine oM ?_); first | k_extra "oas" | k_extra "olt0" | k_extra "odd" | k_extra "olt" | k_extra "olt2") | k_extra "ocl" | exact oT0 | exact oT5)
  k_with "oe1" => (first | ((fail_if_success refine oN ?_); first | k_extra "oas" | k_extra "opu" | k_extra "ole" | k_extra "ole2" | exact oE (by k_extra "oas")) | k_extra "ocl" | k_extra "olit" | k_extra "oas")
  k_with "olit" => (first | exact oT4 | exact oP | exact oP2 | exact oT1 | exact oT2 | exact oT3 | exact oQ5 | exact oQ1 | exact oQ2 | exact oQ3 | exact oQ4 | exact oQ6 | exact oD)
  k_with "ocl" => (with_unfolding_all exact Nat.le_of_ble_eq_true rfl)
  k_with "oas" => (first | assumption | exact oa1 | exact ob1 | exact oa2 | exact ob2 | exact oa3 | exact ob3 | exact oa4 | exact ob4 | exact oa5 | exact ob5 | exact oa6 | exact ob6 | exact oa7 | exact ob7)
  k_with "odd" => (first | exact oa1 ob7 | exact oa2 ob7 | exact oa3 ob7 | exact oa4 ob7 | exact oa5 ob7 | exact oa6 ob7 | exact oa7 ob7 | exact oa1 (ob7 ob7) | exact oa2 (ob7 ob7) | exact oa3 (ob7 ob7) | exact oa4 (ob7 ob7) | exact oa5 (ob7 ob7) | exact oa6 (ob7 ob7) | exact oa7 (ob7 ob7) | exact ob1 ob7 | exact ob2 ob7 | exact ob3 ob7 | exact ob4 ob7 | exact ob5 ob7 | exact ob6 ob7 | exact ob7 ob7)
  k_with "oin" => (first | decide | exact oI1 | exact oI3 | exact oI2 (by k_extra "oas"))
  k_with "om" => (with_reducible first | (first | assumption | ((fail_if_success fail_if_success refine oXn ?_); k_extra "one") | ((fail_if_success fail_if_success refine oXl ?_); k_extra "ol1") | ((fail_if_success fail_if_success refine oXe ?_); k_extra "oe1") | k_extra "oin") | fail)
  k_with "S_fit" => (first | omega | ((simp only [S_len, List.length_append, List.length_cons, List.length_nil, List.length_take, List.length_drop, dots, PySem.sizeLine_eq]); omega))
  k_with "call builtin:len" => (((with_reducible show wpAny _ _ (call (Value.builtin "len") [Value.str (S _) _]) _ _ _); refine r_len (by walk_at "S_fit") ?_))
  k_with "call builtin:str.startswith" => (((with_reducible show wpAny _ _ (call (Value.builtin "str.startswith") [Value.str (S _) _, Value.str (S _) _]) _ _ _); refine r_starts ?_))
  k_with "call builtin:str.endswith" => (((with_reducible show wpAny _ _ (call (Value.builtin "str.endswith") [Value.str (S _) _, Value.str (S _) _]) _ _ _); refine r_ends ?_))
  k_with "truthy str" => (((with_reducible show wpAny _ _ (truthy (Value.str (S _) _)) _ _ _); refine r_truthy (by walk_at "S_fit") ?_))
  k_with "exec For Name Name cons nil" => ((k_here; (rename Fr _ _ _ _ => Z6Xa); (with_unfolding_all refine' For_invVF Z6Xa ?Q6Xa ?Q6Xb ?_; (case Q6Xa => exact rfl); (case Q6Xb => exact rfl); k_whole)))
  k_with "pyIter ref" => (((with_reducible show wpAny _ _ (pyIter (Value.ref _)) (fun it s₂ => LoopAtV _ _ _ _ _ _ _ _ _ it s₂) _ _); k_listUnr))
  k_with "S_enter" => ((refine' code_defG (news := []) ?Q8Xa ?Q8Xb ?Q8Xc ?Q8Xd ?Q8Xe ?Q8Xf ?Q8Xg ?Q8Xh ?Q8Xi ?Q8Xj ?Q8Xk ?Q8Xl ?Q8Xm ?_ ?Q8Xn ?Q8Xo ?Q8Xp ?Q8Xq; (case Q8Xf => exact rfl); (case Q8Xg => exact rfl); (case Q8Xh => assumption); (case Q8Xa => k_asm); (case Q8Xb => k_asm); (case Q8Xc => k_asm); (case Q8Xd => exact News.nil); (case Q8Xe => k_asm); (case Q8Xi => k_is); (case Q8Xj => k_is); (case Q8Xk => ktr_room); (case Q8Xl => exact BindsTo.of_eq rfl); (case Q8Xq => decide); (case Q8Xm => exact locs rfl); (case Q8Xn => exact rfl); (case Q8Xo => exact rfl); (case Q8Xp => exact rfl); k_whole; intro Z8Xh Z8Xd Z8Xi Z8Xc Z8Xb Z8Xe Z8Xa Z8Xg Z8Xf Z8Xj; (try dsimp only [List.map_nil] at Z8Xj); (try dsimp only); (try k_lift Z8Xa); (try k_fold)))
  k_with "S_look" => (first | exact rfl | assumption | exact (if_pos rfl) | (refine (if_neg (by decide)).trans ?_; walk_at "S_look"))
  k_with "eval Name" => ((k_here; k_dflt (refine' nameX_L ?QaXa ?QaXb ?_ ?QaXc ?QaXd; (case QaXa => k_asm); (case QaXc => rfl); (case QaXd => rfl); (case QaXb => walk_at "S_look"); k_whole)))
  k_with "S_lit" => (first | (with_reducible exact lit_dots) | (with_reducible rfl))
  k_with "S_nn" => (first | omega | ((simp only [List.length_append, List.length_cons, List.length_nil, List.length_take, List.length_drop, dots] at *); omega))
  k_with "binaryOp Add str str" => (((with_reducible show wpAny _ _ (binaryOp _ (Value.str _ _) (Value.str _ _)) _ _ _); k_dflt (refine r_add (by walk_at "S_lit") (by walk_at "S_lit") (by walk_at "S_fit") ?_); intro _ _))
  k_with "subscriptTail Name Slice str ref" => (((with_reducible show wpAny _ _ (subscriptTail _ (Expr.Slice none (some _) none _) (Value.str (S _) _) _) _ _ _); (with_reducible rename Fr _ _ _ _ => ZeXa); (with_reducible rename News _ _ _ _ => ZeXb); (refine r_sliceTo (s := ⟨_, _, _, _, _⟩) ZeXa ZeXb (by walk_at "S_nn") (by walk_at "S_fit") ?_); intro _ _ _ _ _))
  k_with "subscriptTail Name Slice str ref" => (((with_reducible show wpAny _ _ (subscriptTail _ (Expr.Slice (some _) none none _) (Value.str (S _) _) _) _ _ _); (with_reducible rename Fr _ _ _ _ => ZfXa); (with_reducible rename News _ _ _ _ => ZfXb); (refine r_sliceFrom (s := ⟨_, _, _, _, _⟩) ZfXa ZfXb (by walk_at "S_nn") (by walk_at "S_fit") ?_); intro _ _ _ _ _))
  k_with "exec For Name Call cons nil" => ((k_here; (rename Fr _ _ _ _ => ZgXa); (with_unfolding_all refine' For_invVF ZgXa ?QgXa ?QgXb ?_; (case QgXa => exact rfl); (case QgXb => exact rfl); k_whole)))
  k_with "S_use" => ((refine' pcon_use ?QhXa ?QhXb ?QhXc ?QhXd ?QhXe ?QhXf ?QhXg ?QhXh ?_; (case QhXb => k_asm); (case QhXc => k_asm); (case QhXd => k_asm); (case QhXe => k_asm); (case QhXa => walk_at "S_con"); (case QhXf => first | exact rfl | assumption); (case QhXg => ktr_room); (case QhXh => ktr_units)))
  k_with "call ref" => ((k_here; k_dflt (walk_at "S_use"); intro ZiXf ZiXd ZiXe ZiXb; (have ZiXa := Fr.keeps (by k_asm) ZiXb); (have ZiXc := News.grown (by k_asm) ZiXb); walk_at "S_back" <;> ((try dsimp only); (try k_fold))))
  k_with "pyIter ref" => (k_extra "S_loop")
  k_with "S_bool" => ((intro ZkXa; (rcases bool_or ZkXa with ⟨R8, R7⟩ | ⟨R8, R7⟩) <;> subst R7))
  k_with "call builtin:list.append" => ((k_here; (with_reducible show wpAny _ _ (call (Value.builtin _) [Value.ref _, _]) _ _ _); k_dflt (refine' append_K ?QlXa ?QlXb ?QlXc ?_ ?QlXd; (case QlXa => k_asm); (case QlXb => k_asm); (case QlXc => k_upd); (case QlXd => exact size_ok (k := 100000) (by omega) (by decide)); k_whole); intro ZlXc ZlXa ZlXb; (try k_sweep)))
  k_with "m_k_room" => (ktr_room)
  k_with "m_k_units" => (ktr_units)
  k_with "S_enterM" => ((refine' code_defG ?QoXa ?QoXb ?QoXc ?QoXd ?QoXe ?QoXf ?QoXg ?QoXh ?QoXi ?QoXj ?QoXk ?QoXl ?QoXm ?_ ?QoXn ?QoXo ?QoXp ?QoXq; (case QoXf => exact rfl); (case QoXg => exact rfl); (case QoXh => assumption); (case QoXa => k_asm); (case QoXb => k_asm); (case QoXc => k_asm); (case QoXd => k_asm); (case QoXe => k_asm); (case QoXi => k_is); (case QoXj => k_is); (case QoXk => ktr_room); (case QoXl => exact BindsTo.of_eq rfl); (case QoXq => decide); (case QoXm => exact locs rfl); (case QoXn => exact rfl); (case QoXo => exact rfl); (case QoXp => exact rfl); k_whole; intro ZoXh ZoXd ZoXi ZoXc ZoXb ZoXe ZoXa ZoXg ZoXf ZoXj; (try dsimp only [List.map_nil, List.map_cons] at ZoXj); (try dsimp only); (try k_lift ZoXa); (try k_fold)))
  k_with "callWith" => (((with_reducible show wpAny _ _ (callWith _ (Prod.fst _) (Prod.snd _) _ _) _ _ _); dsimp only))
  k_with "S_int" => (first | omega | decide | ((simp only [List.length_cons, List.length_nil, decide_eq_true_eq, decide_eq_false_iff_not, beq_iff_eq, beq_eq_false_iff_ne, ne_eq, Int.not_lt, Int.not_le] at *); omega))
  k_with "binaryOp FloorDiv int int" => (((with_reducible show wpAny _ _ (binaryOp _ (Value.int _ _) (Value.int _ _)) _ _ _); k_dflt (refine r_fdiv (by walk_at "S_int") (by walk_at "S_int") ?_); intro _ _))
  k_with "binaryOp Mod int int" => (((with_reducible show wpAny _ _ (binaryOp _ (Value.int _ _) (Value.int _ _)) _ _ _); k_dflt (refine r_fmod (by walk_at "S_int") ?_); intro _ _))
  k_with "S_item" => (((with_reducible show wpAny _ _ (subscriptTail _ _ (Value.str (S _) _) (Value.int _ _)) _ _ _); k_dflt (refine r_item (by walk_at "S_int") (by walk_at "S_int") (by walk_at "S_fit") ?_); intro _ _))
  k_with "subscriptTail Name BinOp str int" => (walk_at "S_item")
  k_with "subscriptTail Name Constant str int" => (walk_at "S_item")
  k_with "subscriptTail Name Name str int" => (walk_at "S_item")
  k_with "S_lit" => (first | (with_reducible exact lit_dots) | (with_reducible exact lit_empty) | (with_reducible exact lit34) | (with_reducible exact lit9234) | (with_reducible exact lit92) | (with_reducible exact lit10) | (with_reducible exact lit38) | (with_reducible exact lit59) | (with_reducible rfl))
  k_with "call builtin:str.replace" => (((with_reducible show wpAny _ _ (call (Value.builtin _) [Value.str (S _) _, Value.str _ _, Value.str _ _]) _ _ _); k_dflt (refine r_replace (by walk_at "S_lit") (by walk_at "S_lit") (by decide) (Nat.succ_ne_zero _) (Nat.succ_ne_zero _) (Nat.ne_of_lt (Nat.lt_succ_self _)) (by decide) (by walk_at "S_nn") ?_); intro _ _))
  k_with "call builtin:str.join" => ((k_here; (with_reducible show wpAny _ _ (call (Value.builtin _) [Value.str _ _, Value.ref _]) _ _ _); k_dflt (refine r_join (by walk_at "S_lit") (by walk_at "S_isl") (by walk_at "S_strs") (by walk_at "S_sum") ?_); intro _ _))
  k_with "S_isl" => (first | assumption | exact ⟨LCg.lst _, News.get (by k_asm) (by k_mem), rfl, _, rfl⟩ | is_list)
  k_with "S_strs" => (first | exact StrsAre.nil | assumption | (exact CharsAre.strs (by assumption)))
  k_with "binaryOp Mult str int" => (((with_reducible show wpAny _ _ (binaryOp _ (Value.str (S _) _) (Value.int _ _)) _ _ _); k_dflt (refine r_mul (by walk_at "S_int") (by walk_at "S_int") (by walk_at "S_nn") ?_); intro _ _))
  k_with "S_enterC" => ((refine' code_defCG ?Q13Xa ?Q13Xb ?Q13Xc ?Q13Xd ?Q13Xe ?Q13Xf ?Q13Xg ?Q13Xh ?Q13Xi ?Q13Xj ?Q13Xk ?Q13Xl ?Q13Xm ?Q13Xn ?_ ?Q13Xo ?Q13Xp ?Q13Xq; (case Q13Xf => exact rfl); (case Q13Xg => exact rfl); (case Q13Xh => assumption); (case Q13Xa => k_asm); (case Q13Xb => k_asm); (case Q13Xc => k_asm); (case Q13Xd => k_asm); (case Q13Xe => k_asm); (case Q13Xi => k_is); (case Q13Xj => k_is); (case Q13Xk => ktr_room); (case Q13Xl => exact BindsTo.of_eq rfl); (case Q13Xm => rfl); (case Q13Xn => decide); (case Q13Xo => exact rfl); (case Q13Xp => exact rfl); (case Q13Xq => exact rfl); k_whole; intro Z13Xj Z13Xd Z13Xk Z13Xo Z13Xi Z13Xc Z13Xb Z13Xe Z13Xh Z13Xa Z13Xg Z13Xf Z13Xm Z13Xl Z13Xn; (try dsimp only [List.map_nil, List.map_cons] at Z13Xl); (try k_lt Z13Xm); k_cells Z13Xh; (try simp only [List.cons_append, List.nil_append] at Z13Xe); (try dsimp only); (try k_lift Z13Xa); (try k_fold)))
  k_with "S_lcs" => ((k_here; k_dflt (refine ListComp_S (_F₀ := by k_asm) (by rfl) (by decide) (by rfl) (by decide) (by rfl) ?_)))
  k_with "S_lit" => (first | (with_reducible exact lit_dots) | (with_reducible exact lit_empty) | (with_reducible exact lit34) | (with_reducible exact lit9234) | (with_reducible exact lit92) | (with_reducible exact lit10) | (with_reducible exact lit38) | (with_reducible exact lit59) | (with_reducible exact lit60) | (with_reducible exact lit62) | (with_reducible exact lit13) | (with_reducible exact lit9) | (with_reducible exact litamp) | (with_reducible exact litlt) | (with_reducible exact litgt) | (with_reducible exact litquot) | (with_reducible rfl))
  k_with "S_sum" => (assumption)
  k_with "eval ListComp" => ((k_here; (with_reducible show wpAny _ _ (eval (PySem.Expr.ListComp _ [⟨PySem.Expr.Tuple _ _ _, _, [], 0⟩] _ _) _) _ _ _); k_dflt (refine ListComp_E (_F₀ := by k_asm) (by rfl) (by decide) (by rfl) (by decide) (by rfl) (by rfl) (by decide) ?_)))
  k_with "eval ListComp" => ((k_here; (with_reducible show wpAny _ _ (eval (PySem.Expr.ListComp _ [⟨PySem.Expr.Name _ _, _, [], 0⟩] _ _) _) _ _ _); k_dflt (refine LCg.ListComp_U (F₀ := by k_asm) (by rfl) (by decide) (by rfl) (by decide) (by rfl) ?_)))
  k_with "call type:enumerate" => (refine stop9 ?_)
  k_with "exec Assign cons ListComp" => ((k_here; k_dflt (refine wpAny_Assign_Name ?_ (by rfl))))
  k_with "CompSrc" => (refine stop9 ?_)
  k_with "CompEnd" => (refine stop9 ?_)
  k_with "FinE" => (((unfold LCg.FinE); intro Z1dXa Z1dXd Z1dXf Z1dXb Z1dXc Z1dXe; (try simp only [List.nil_append, List.cons_append] at Z1dXc); (try dsimp only)))
  k_with "FinA" => (((unfold LCg.FinA); intro Z1eXa Z1eXd Z1eXf Z1eXb Z1eXc Z1eXe; (try simp only [List.nil_append, List.cons_append] at Z1eXc); (try dsimp only)))
  k_with "m_k_ne" => (first | (refine neN ?_; (try dsimp only); omega) | exact off1_ne (by assumption) (by k_mem) | exact Ne.symm (off1_ne (by assumption) (by k_mem)))
  k_with "eval ListComp" => ((k_here; (with_reducible show wpAny _ _ (eval (PySem.Expr.ListComp _ [⟨PySem.Expr.Name _ _, _, [_], 0⟩] _ _) _) _ _ _); k_dflt (refine LCt.ListComp_T (F₀ := by k_asm) (by rfl) (by decide) (by rfl) (by decide) (by rfl) ?_)))
  k_with "CompSrcT" => (refine stop9 ?_)
  k_with "S_laps" => ((intro Z1iXf; obtain ⟨Z1iXa, Z1iXj, Z1iXi, Z1iXh, Z1iXc, Z1iXd, Z1iXe⟩ := Z1iXf; subst Z1iXh; (obtain ⟨Z1iXb, Z1iXg⟩ := news_add (by k_asm) (by k_asm) (by k_asm) Z1iXc Z1iXd)))
  k_with "S_il" => (((rename News _ _ _ _ => Z1jXa); exact ⟨_, News.get Z1jXa (by k_mem), rfl, _, rfl⟩))
  k_with "S_enterC0" => ((refine' code_defCG (news := []) ?Q1kXa ?Q1kXb ?Q1kXc ?Q1kXd ?Q1kXe ?Q1kXf ?Q1kXg ?Q1kXh ?Q1kXi ?Q1kXj ?Q1kXk ?Q1kXl ?Q1kXm ?Q1kXn ?_ ?Q1kXo ?Q1kXp ?Q1kXq; (case Q1kXf => exact rfl); (case Q1kXg => exact rfl); (case Q1kXh => assumption); (case Q1kXa => k_asm); (case Q1kXb => k_asm); (case Q1kXc => k_asm); (case Q1kXd => exact News.nil); (case Q1kXe => k_asm); (case Q1kXi => k_is); (case Q1kXj => k_is); (case Q1kXk => ktr_room); (case Q1kXl => exact BindsTo.of_eq rfl); (case Q1kXm => rfl); (case Q1kXn => decide); (case Q1kXo => exact rfl); (case Q1kXp => exact rfl); (case Q1kXq => exact rfl); k_whole; intro Z1kXj Z1kXd Z1kXk Z1kXo Z1kXi Z1kXc Z1kXb Z1kXe Z1kXh Z1kXa Z1kXg Z1kXf Z1kXm Z1kXl Z1kXn; (try dsimp only [List.map_nil, List.map_cons] at Z1kXl); (try k_lt Z1kXm); k_cells Z1kXh; (try simp only [List.cons_append, List.nil_append] at Z1kXe); (try dsimp only); (try k_lift Z1kXa); (try k_fold)))
  k_with "exec For Name Name cons nil" => ((k_here; k_dflt (refine For_ownA ?_)))
  k_with "pyIter str" => (refine stop9 ?_)
  k_with "binaryOp Add ref ref" => (refine stop9 ?_)
  trivial
theorem fr_loc {g h : Heap} {L : Addr} {m : PySem.Str → Option Value} (_F : Fr g L h m) : ∃ b : Addr, b = L := ⟨L, rfl⟩
noncomputable def partsL (x : List Nat) : List (List Nat) := x.foldl (fun rows c => rows ++ rows.map (· ++ [c])) [[]]
theorem parts_snoc (x : List Nat) (c : Nat) : partsL (x ++ [c]) = partsL x ++ (partsL x).map (· ++ [c]) := by
  unfold partsL; rw [List.foldl_append]; rfl
theorem parts_len (x : List Nat) : (partsL x).length = 2 ^ x.length := by
  have key : ∀ (x : List Nat) (rows : List (List Nat)), (x.foldl (fun rows c => rows ++ rows.map (· ++ [c])) rows).length = rows.length * 2 ^ x.length := by
    intro x
    induction x with
    | nil => intro rows; simp
    | cons c x ih =>
      intro rows
      rw [List.foldl_cons, ih, List.length_append, List.length_map, List.length_cons, Nat.pow_succ, Nat.mul_comm (2 ^ x.length) 2, ← Nat.mul_assoc]
      congr 1
      omega
  exact (key x [[]]).trans (Nat.one_mul _)
theorem parts_le (x : List Nat) : ∀ y ∈ partsL x, y.length ≤ x.length := by
  have key : ∀ (x : List Nat) (rows : List (List Nat)) (B : Nat), (∀ y ∈ rows, y.length ≤ B) → ∀ y ∈ x.foldl (fun rows c => rows ++ rows.map (· ++ [c])) rows, y.length ≤ B + x.length := by
    intro x
    induction x with
    | nil => intro rows B h y hy; exact h y hy
    | cons c x ih =>
      intro rows B h y hy
      rw [List.length_cons, Nat.add_comm x.length 1, ← Nat.add_assoc]
      refine ih _ (B + 1) (fun z hz => ?_) y hy
      rcases List.mem_append.mp hz with hz | hz
      · exact Nat.le_succ_of_le (h z hz)
      · obtain ⟨u, hu, rfl⟩ := List.mem_map.mp hz
        rw [List.length_append, List.length_singleton]
        exact Nat.succ_le_succ (h u hu)
  intro y hy
  have := key x [[]] 0 (by simp) y hy
  omega
theorem con_parts {w : World} {p loose mean mg mb} (x : List Nat) (t : Tok) (hx : x.length ≤ 5) (h8 : ∀ c ∈ x, c < 128) :
    PCon 4 Challenge.pw_sc0056_02 w (hd.heap_1 w.params) p loose mean mg mb 139 [.str (S x) t] (fun h h' v => ∃ D vs k, v = .ref D ∧ h'.get? D = some (listOf vs.toArray k) ∧ h.get? D = none ∧ StrsAre vs (partsL x)) := by
  dsimp only [PCon]
  intros
  rename_i hret
  refine wpAny_call ?_
  k_dflt (walk_at "S_enterC0")
  (try clear sfl)
  k_steps
  refine Stop9.go ?_
  rename Fr _ _ _ _ => F1
  rename News _ _ _ _ => N1
  obtain ⟨L9, rfl⟩ := fr_loc F1
  k_dflt (refine' loopSA (J := fun i m news => m (PySem.Str.ofString "text") = some (.str (S x) t) ∧ ∃ D vs k oc vc, m (PySem.Str.ofString "rows") = some (.ref D) ∧ oc.data = .cell vc ∧ @LT.lt Nat _ (L9 + 1) D ∧ news = [(D, listOf vs.toArray k), (L9 + 1, oc)] ∧ StrsAre vs (partsL (x.take i))) ?kh ?kF ?kN h8 ?start ?turn (done := ?done))
  case kh => rfl
  case kF => exact F1
  case kN => exact N1
  case start => exact ⟨rfl, _, [_], _, _, _, rfl, by assumption, by omega, rfl, .cons _ _ .nil⟩
  case turn =>
    clear F1 N1
    rintro i c u m2 news2 It oI h2 tk2 hi ⟨hT, D2, vs2, k2, oc2, vc2, hD, hc2, hl2, rfl, hS⟩ off lt F2 N2
    dsimp only [TurnL]
    have hvl : vs2.length ≤ 32 := by
      rw [hS.length, parts_len, List.length_take]
      exact Nat.le_trans (Nat.pow_le_pow_right (by decide) (show min i x.length ≤ 5 by omega)) (by decide)
    have hxl : ∀ y ∈ partsL (x.take i), y.length ≤ 5 := fun y hy => Nat.le_trans (parts_le _ y hy) (by rw [List.length_take]; omega)
    k_steps
    refine Stop9.go ?_
    rename Fr _ _ _ _ => F3
    rename News _ _ _ _ => N3
    k_dflt (refine CompSrc.ledger rfl F3 N3 (by k_mem) (by rw [List.size_toArray, PySem.sizeLine_eq]; omega) fun g' => ?_)
    refine rest_ind (J := fun j ys news => StrsAre ys (((partsL (x.take i)).take j).map (· ++ [c])) ∧ news = _) ?step ?fin _ 0 _ _ (Nat.zero_add _) ⟨.nil, rfl⟩
    case step =>
      clear N3 F3
      rintro j v ys news I oI' C oC D m3 h3 tk3 E9 hj hP ⟨hJ, rfl⟩ hC3 hx3 F4 N4 off4 ne4
      obtain ⟨y, ty, rfl, hy⟩ := strs_at hS (by simpa using hP)
      have hy5 := hxl y (List.mem_of_getElem? hy)
      dsimp only
      k_steps
      refine Stop9.go ?_
      rename Fr _ _ _ _ => F5
      rename News _ _ _ _ => N5
      refine CompEnd.intro F5 N5 _ ?s2 off4 ?sr ⟨?st, rfl⟩
      case s2 => (intro p hp; repeat first | exact hp | apply List.mem_cons_of_mem)
      case sr => lcg_src
      case st =>
        rw [List.take_add_one, hy, List.map_append]
        exact hJ.append (.cons _ _ .nil)
    case fin =>
      rintro ys news ⟨hJ, rfl⟩
      clear N3 F3
      intro D5 h5 tk5 F5 N5 o5
      have hys : ys.length ≤ 32 := by rw [hJ.length, List.length_map, List.length_take]; have := hS.length; omega
      dsimp only
      k_steps
      refine Stop9.go ?_
      rename Fr _ _ _ _ => F6
      rename News _ _ _ _ => N6
      have li := fun q hq => Heap.lt_size (N6 q hq).1
      have li1 := li _ (show (It, _) ∈ _ by k_mem)
      have li2 := li _ (show (L9 + 1, _) ∈ _ by k_mem)
      k_dflt (refine add_lists F6 N6 ⟨_, News.get N6 (show (D2, listOf vs2.toArray k2) ∈ _ by k_mem), rfl, _, rfl⟩ ⟨_, News.get N6 (.head _), rfl, _, rfl⟩ (fun h7 F7 N7 => ?_) (by rw [PySem.sizeLine_eq]; omega))
      obtain ⟨D7, hD7⟩ := head_addr N7
      rw [← hD7] at N7 li1 li2 ⊢
      clear N6 F6 li hD7
      dsimp only at li1 li2
      k_steps
      rename Fr _ _ _ _ => F8
      rename News _ _ _ _ => N8
      rename _ = Data.cell (some (Value.str (S [c]) _)) => d9
      obtain ⟨o9, rfl⟩ := name_obj d9
      refine EndL.intro F8 N8 [(D7, listOf (vs2 ++ ys).toArray 0), (L9 + 1, o9)] (List.forall_mem_cons.mpr ⟨by k_mem, List.forall_mem_cons.mpr ⟨by k_mem, List.forall_mem_cons.mpr ⟨by k_mem, fun q hq => absurd hq List.not_mem_nil⟩⟩⟩) ⟨Nat.ne_of_gt li1, off.2.1, trivial⟩ ⟨by exact hT, D7, vs2 ++ ys, 0, o9, _, by rfl, d9, li2, rfl, ?_⟩
      rw [List.take_add_one, hi]
      show StrsAre _ (partsL (x.take i ++ [c]))
      rw [parts_snoc]
      rw [List.take_of_length_le (by rw [List.size_toArray, hS.length]; exact Nat.le_refl _)] at hJ
      exact hS.append hJ
  case done =>
    rintro m2 news2 h2 tk2 ⟨hT, D2, vs2, k2, oc2, vc2, hD, hc2, hl2, rfl, hS⟩ F2 N2
    rw [List.take_length] at hS
    dsimp only
    k_steps
    exact hret _ _ _ (pc_kept (by assumption) (by assumption)) ⟨D2, vs2, k2, rfl, News.get N2 (.head _), gsub_none (by assumption) (News.fresh N2 (.head _)), hS⟩
end
section
local macro_rules | `(tactic| walk_at "zz0") => `(tactic| fail)
local macro_rules | `(tactic| walk_at "zz1") => `(tactic| fail)
local macro_rules | `(tactic| walk_at "zz2") => `(tactic| fail)
example : True := by
  k_with_none
  w_top off
  k_with "olt" => (first | assumption | ((fail_if_success refine oM ?_); refine oL ?_; k_extra "ole") | k_extra "olh")
  k_with "olh" => (refine oH (by assumption) (by k_extra "ole"))
  k_with "ole" => (first | exact Nat.le_refl _ | assumption | exact oB | ((first | refine oA ?_ | refine oA2 ?_ | refine oA3 ?_); k_extra "ocl") | (refine oS ?_; k_extra "ole") | (refine Nat.le_of_lt ?_; (first | assumption | k_extra "olh")) | exact oE)
  k_with "olt2" => (first | k_extra "oas" | ((fail_if_success refine oM ?_); refine oL ?_; k_extra "ole2") | k_extra "olh2")
  k_with "olh2" => (refine oH (by k_extra "oas") (by k_extra "ole2"))
  k_with "ole2" => (first | exact Nat.le_refl _ | k_extra "oas" | exact oB | ((first | refine oA ?_ | refine oA2 ?_ | refine oA3 ?_); k_extra "ocl") | (refine oS ?_; k_extra "ole2") | (refine Nat.le_of_lt ?_; (first | k_extra "oas" | k_extra "olh2")) | exact oE)
  k_with "opu" => (first | exact oB | exact Nat.le_refl _ | (refine oS ?_; k_extra "opu"))
  k_with "olt0" => (refine oL ?_; k_extra "opu")
  k_with "one" => (first | (refine Nat.ne_of_gt ?_; (fail_if_success refine oM ?_); k_extra "olt0") | (refine Nat.ne_of_lt ?_; (fail_if_success refine oM ?_); k_extra "olt0") | exact Ne.symm (by assumption) | (refine Nat.ne_of_gt ?_; (fail_if_success refine oM ?_); k_extra "oas") | (refine Nat.ne_of_lt ?_; (fail_if_success refine oM ?_); k_extra "oas") | (refine Nat.ne_of_gt ?_; (fail_if_success refine oM ?_); k_extra "odd") | (refine Nat.ne_of_lt ?_; (fail_if_success refine oM ?_); k_extra "odd") | (refine Nat.ne_of_gt ?_; (fail_if_success refine oM ?_); k_extra "olt") | (refine Nat.ne_of_lt ?_; (fail_if_success refine oM ?_); k_extra "olt") | (refine Nat.ne_of_gt ?_; (fail_if_success refine oM ?_); k_extra "olt2") | (refine Nat.ne_of_lt ?_; (fail_if_success refine oM ?_); k_extra "olt2") | decide)
  k_with "ol1" => (first | ((fail_if_success refine oM ?_); first | k_extra "oas" | k_extra "olt0" | k_extra "odd" | k_extra "olt" | k_extra "olt2") | k_extra "ocl" | exact oT0 | exact oT5)
  k_with "oe1" => (first | ((fail_if_success refine oN ?_); first | k_extra "oas" | k_extra "opu" | k_extra "ole" | k_extra "ole2" | exact oE (by k_extra "oas")) | k_extra "ocl" | k_extra "olit" | k_extra "oas")
  k_with "olit" => (first | exact oT4 | exact oP | exact oP2 | exact oT1 | exact oT2 | exact oT3 | exact oQ5 | exact oQ1 | exact oQ2 | exact oQ3 | exact oQ4 | exact oQ6 | exact oD)
  k_with "ocl" => (with_unfolding_all exact Nat.le_of_ble_eq_true rfl)
  k_with "oas" => (first | assumption | exact oa1 | exact ob1 | exact oa2 | exact ob2 | exact oa3 | exact ob3 | exact oa4 | exact ob4 | exact oa5 | exact ob5 | exact oa6 | exact ob6 | exact oa7 | exact ob7)
  k_with "odd" => (first | exact oa1 ob7 | exact oa2 ob7 | exact oa3 ob7 | exact oa4 ob7 | exact oa5 ob7 | exact oa6 ob7 | exact oa7 ob7 | exact oa1 (ob7 ob7) | exact oa2 (ob7 ob7) | exact oa3 (ob7 ob7) | exact oa4 (ob7 ob7) | exact oa5 (ob7 ob7) | exact oa6 (ob7 ob7) | exact oa7 (ob7 ob7) | exact ob1 ob7 | exact ob2 ob7 | exact ob3 ob7 | exact ob4 ob7 | exact ob5 ob7 | exact ob6 ob7 | exact ob7 ob7)
  k_with "oin" => (first | decide | exact oI1 | exact oI3 | exact oI2 (by k_extra "oas"))
  k_with "om" => (with_reducible first | (first | assumption | ((fail_if_success fail_if_success refine oXn ?_); k_extra "one") | ((fail_if_success fail_if_success refine oXl ?_); k_extra "ol1") | ((fail_if_success fail_if_success refine oXe ?_); k_extra "oe1") | k_extra "oin") | fail)
  k_with "S_fit" => (first | omega | ((simp only [S_len, List.length_append, List.length_cons, List.length_nil, List.length_take, List.length_drop, dots, PySem.sizeLine_eq]); omega))
  k_with "call builtin:len" => (((with_reducible show wpAny _ _ (call (Value.builtin "len") [Value.str (S _) _]) _ _ _); refine r_len (by walk_at "S_fit") ?_))
  k_with "call builtin:str.startswith" => (((with_reducible show wpAny _ _ (call (Value.builtin "str.startswith") [Value.str (S _) _, Value.str (S _) _]) _ _ _); refine r_starts ?_))
  k_with "call builtin:str.endswith" => (((with_reducible show wpAny _ _ (call (Value.builtin "str.endswith") [Value.str (S _) _, Value.str (S _) _]) _ _ _); refine r_ends ?_))
  k_with "truthy str" => (((with_reducible show wpAny _ _ (truthy (Value.str (S _) _)) _ _ _); refine r_truthy (by walk_at "S_fit") ?_))
  k_with "exec For Name Name cons nil" => ((k_here; (rename Fr _ _ _ _ => Z6Xa); (with_unfolding_all refine' For_invVF Z6Xa ?Q6Xa ?Q6Xb ?_; (case Q6Xa => exact rfl); (case Q6Xb => exact rfl); k_whole)))
  k_with "pyIter ref" => (((with_reducible show wpAny _ _ (pyIter (Value.ref _)) (fun it s₂ => LoopAtV _ _ _ _ _ _ _ _ _ it s₂) _ _); k_listUnr))
  k_with "S_enter" => ((refine' code_defG (news := []) ?Q8Xa ?Q8Xb ?Q8Xc ?Q8Xd ?Q8Xe ?Q8Xf ?Q8Xg ?Q8Xh ?Q8Xi ?Q8Xj ?Q8Xk ?Q8Xl ?Q8Xm ?_ ?Q8Xn ?Q8Xo ?Q8Xp ?Q8Xq; (case Q8Xf => exact rfl); (case Q8Xg => exact rfl); (case Q8Xh => assumption); (case Q8Xa => k_asm); (case Q8Xb => k_asm); (case Q8Xc => k_asm); (case Q8Xd => exact News.nil); (case Q8Xe => k_asm); (case Q8Xi => k_is); (case Q8Xj => k_is); (case Q8Xk => ktr_room); (case Q8Xl => exact BindsTo.of_eq rfl); (case Q8Xq => decide); (case Q8Xm => exact locs rfl); (case Q8Xn => exact rfl); (case Q8Xo => exact rfl); (case Q8Xp => exact rfl); k_whole; intro Z8Xh Z8Xd Z8Xi Z8Xc Z8Xb Z8Xe Z8Xa Z8Xg Z8Xf Z8Xj; (try dsimp only [List.map_nil] at Z8Xj); (try dsimp only); (try k_lift Z8Xa); (try k_fold)))
  k_with "S_look" => (first | exact rfl | assumption | exact (if_pos rfl) | (refine (if_neg (by decide)).trans ?_; walk_at "S_look"))
  k_with "eval Name" => ((k_here; k_dflt (refine' nameX_L ?QaXa ?QaXb ?_ ?QaXc ?QaXd; (case QaXa => k_asm); (case QaXc => rfl); (case QaXd => rfl); (case QaXb => walk_at "S_look"); k_whole)))
  k_with "S_lit" => (first | (with_reducible exact lit_dots) | (with_reducible rfl))
  k_with "S_nn" => (first | omega | ((simp only [List.length_append, List.length_cons, List.length_nil, List.length_take, List.length_drop, dots] at *); omega))
  k_with "binaryOp Add str str" => (((with_reducible show wpAny _ _ (binaryOp _ (Value.str _ _) (Value.str _ _)) _ _ _); k_dflt (refine r_add (by walk_at "S_lit") (by walk_at "S_lit") (by walk_at "S_fit") ?_); intro _ _))
  k_with "subscriptTail Name Slice str ref" => (((with_reducible show wpAny _ _ (subscriptTail _ (Expr.Slice none (some _) none _) (Value.str (S _) _) _) _ _ _); (with_reducible rename Fr _ _ _ _ => ZeXa); (with_reducible rename News _ _ _ _ => ZeXb); (refine r_sliceTo (s := ⟨_, _, _, _, _⟩) ZeXa ZeXb (by walk_at "S_nn") (by walk_at "S_fit") ?_); intro _ _ _ _ _))
  k_with "subscriptTail Name Slice str ref" => (((with_reducible show wpAny _ _ (subscriptTail _ (Expr.Slice (some _) none none _) (Value.str (S _) _) _) _ _ _); (with_reducible rename Fr _ _ _ _ => ZfXa); (with_reducible rename News _ _ _ _ => ZfXb); (refine r_sliceFrom (s := ⟨_, _, _, _, _⟩) ZfXa ZfXb (by walk_at "S_nn") (by walk_at "S_fit") ?_); intro _ _ _ _ _))
  k_with "exec For Name Call cons nil" => ((k_here; (rename Fr _ _ _ _ => ZgXa); (with_unfolding_all refine' For_invVF ZgXa ?QgXa ?QgXb ?_; (case QgXa => exact rfl); (case QgXb => exact rfl); k_whole)))
  k_with "S_use" => ((refine' pcon_use ?QhXa ?QhXb ?QhXc ?QhXd ?QhXe ?QhXf ?QhXg ?QhXh ?_; (case QhXb => k_asm); (case QhXc => k_asm); (case QhXd => k_asm); (case QhXe => k_asm); (case QhXa => walk_at "S_con"); (case QhXf => first | exact rfl | assumption); (case QhXg => ktr_room); (case QhXh => ktr_units)))
  k_with "call ref" => ((k_here; k_dflt (walk_at "S_use"); intro ZiXf ZiXd ZiXe ZiXb; (have ZiXa := Fr.keeps (by k_asm) ZiXb); (have ZiXc := News.grown (by k_asm) ZiXb); walk_at "S_back" <;> ((try dsimp only); (try k_fold))))
  k_with "pyIter ref" => (k_extra "S_loop")
  k_with "S_bool" => ((intro ZkXa; (rcases bool_or ZkXa with ⟨R8, R7⟩ | ⟨R8, R7⟩) <;> subst R7))
  k_with "call builtin:list.append" => ((k_here; (with_reducible show wpAny _ _ (call (Value.builtin _) [Value.ref _, _]) _ _ _); k_dflt (refine' append_K ?QlXa ?QlXb ?QlXc ?_ ?QlXd; (case QlXa => k_asm); (case QlXb => k_asm); (case QlXc => k_upd); (case QlXd => exact size_ok (k := 100000) (by omega) (by decide)); k_whole); intro ZlXc ZlXa ZlXb; (try k_sweep)))
  k_with "m_k_room" => (ktr_room)
  k_with "m_k_units" => (ktr_units)
  k_with "S_enterM" => ((refine' code_defG ?QoXa ?QoXb ?QoXc ?QoXd ?QoXe ?QoXf ?QoXg ?QoXh ?QoXi ?QoXj ?QoXk ?QoXl ?QoXm ?_ ?QoXn ?QoXo ?QoXp ?QoXq; (case QoXf => exact rfl); (case QoXg => exact rfl); (case QoXh => assumption); (case QoXa => k_asm); (case QoXb => k_asm); (case QoXc => k_asm); (case QoXd => k_asm); (case QoXe => k_asm); (case QoXi => k_is); (case QoXj => k_is); (case QoXk => ktr_room); (case QoXl => exact BindsTo.of_eq rfl); (case QoXq => decide); (case QoXm => exact locs rfl); (case QoXn => exact rfl); (case QoXo => exact rfl); (case QoXp => exact rfl); k_whole; intro ZoXh ZoXd ZoXi ZoXc ZoXb ZoXe ZoXa ZoXg ZoXf ZoXj; (try dsimp only [List.map_nil, List.map_cons] at ZoXj); (try dsimp only); (try k_lift ZoXa); (try k_fold)))
  k_with "callWith" => (((with_reducible show wpAny _ _ (callWith _ (Prod.fst _) (Prod.snd _) _ _) _ _ _); dsimp only))
  k_with "S_int" => (first | omega | decide | ((simp only [List.length_cons, List.length_nil, decide_eq_true_eq, decide_eq_false_iff_not, beq_iff_eq, beq_eq_false_iff_ne, ne_eq, Int.not_lt, Int.not_le] at *); omega))
  k_with "binaryOp FloorDiv int int" => (((with_reducible show wpAny _ _ (binaryOp _ (Value.int _ _) (Value.int _ _)) _ _ _); k_dflt (refine r_fdiv (by walk_at "S_int") (by walk_at "S_int") ?_); intro _ _))
  k_with "binaryOp Mod int int" => (((with_reducible show wpAny _ _ (binaryOp _ (Value.int _ _) (Value.int _ _)) _ _ _); k_dflt (refine r_fmod (by walk_at "S_int") ?_); intro _ _))
  k_with "S_item" => (((with_reducible show wpAny _ _ (subscriptTail _ _ (Value.str (S _) _) (Value.int _ _)) _ _ _); k_dflt (refine r_item (by walk_at "S_int") (by walk_at "S_int") (by walk_at "S_fit") ?_); intro _ _))
  k_with "subscriptTail Name BinOp str int" => (walk_at "S_item")
  k_with "subscriptTail Name Constant str int" => (walk_at "S_item")
  k_with "subscriptTail Name Name str int" => (walk_at "S_item")
  k_with "S_lit" => (first | (with_reducible exact lit_dots) | (with_reducible exact lit_empty) | (with_reducible exact lit34) | (with_reducible exact lit9234) | (with_reducible exact lit92) | (with_reducible exact lit10) | (with_reducible exact lit38) | (with_reducible exact lit59) | (with_reducible rfl))
  k_with "call builtin:str.replace" => (((with_reducible show wpAny _ _ (call (Value.builtin _) [Value.str (S _) _, Value.str _ _, Value.str _ _]) _ _ _); k_dflt (refine r_replace (by walk_at "S_lit") (by walk_at "S_lit") (by decide) (Nat.succ_ne_zero _) (Nat.succ_ne_zero _) (Nat.ne_of_lt (Nat.lt_succ_self _)) (by decide) (by walk_at "S_nn") ?_); intro _ _))
  k_with "call builtin:str.join" => ((k_here; (with_reducible show wpAny _ _ (call (Value.builtin _) [Value.str _ _, Value.ref _]) _ _ _); k_dflt (refine r_join (by walk_at "S_lit") (by walk_at "S_isl") (by walk_at "S_strs") (by walk_at "S_sum") ?_); intro _ _))
  k_with "S_isl" => (first | assumption | exact ⟨LCg.lst _, News.get (by k_asm) (by k_mem), rfl, _, rfl⟩ | is_list)
  k_with "S_strs" => (first | exact StrsAre.nil | assumption | (exact CharsAre.strs (by assumption)))
  k_with "binaryOp Mult str int" => (((with_reducible show wpAny _ _ (binaryOp _ (Value.str (S _) _) (Value.int _ _)) _ _ _); k_dflt (refine r_mul (by walk_at "S_int") (by walk_at "S_int") (by walk_at "S_nn") ?_); intro _ _))
  k_with "S_enterC" => ((refine' code_defCG ?Q13Xa ?Q13Xb ?Q13Xc ?Q13Xd ?Q13Xe ?Q13Xf ?Q13Xg ?Q13Xh ?Q13Xi ?Q13Xj ?Q13Xk ?Q13Xl ?Q13Xm ?Q13Xn ?_ ?Q13Xo ?Q13Xp ?Q13Xq; (case Q13Xf => exact rfl); (case Q13Xg => exact rfl); (case Q13Xh => assumption); (case Q13Xa => k_asm); (case Q13Xb => k_asm); (case Q13Xc => k_asm); (case Q13Xd => k_asm); (case Q13Xe => k_asm); (case Q13Xi => k_is); (case Q13Xj => k_is); (case Q13Xk => ktr_room); (case Q13Xl => exact BindsTo.of_eq rfl); (case Q13Xm => rfl); (case Q13Xn => decide); (case Q13Xo => exact rfl); (case Q13Xp => exact rfl); (case Q13Xq => exact rfl); k_whole; intro Z13Xj Z13Xd Z13Xk Z13Xo Z13Xi Z13Xc Z13Xb Z13Xe Z13Xh Z13Xa Z13Xg Z13Xf Z13Xm Z13Xl Z13Xn; (try dsimp only [List.map_nil, List.map_cons] at Z13Xl); (try k_lt Z13Xm); k_cells Z13Xh; (try simp only [List.cons_append, List.nil_append] at Z13Xe); (try dsimp only); (try k_lift Z13Xa); (try k_fold)))
  k_with "S_lcs" => ((k_here; k_dflt (refine ListComp_S (_F₀ := by k_asm) (by rfl) (by decide) (by rfl) (by decide) (by rfl) ?_)))
  k_with "S_lit" => (first | (with_reducible exact lit_dots) | (with_reducible exact lit_empty) | (with_reducible exact lit34) | (with_reducible exact lit9234) | (with_reducible exact lit92) | (with_reducible exact lit10) | (with_reducible exact lit38) | (with_reducible exact lit59) | (with_reducible exact lit60) | (with_reducible exact lit62) | (with_reducible exact lit13) | (with_reducible exact lit9) | (with_reducible exact litamp) | (with_reducible exact litlt) | (with_reducible exact litgt) | (with_reducible exact litquot) | (with_reducible rfl))
  k_with "S_sum" => (assumption)
  k_with "eval ListComp" => ((k_here; (with_reducible show wpAny _ _ (eval (PySem.Expr.ListComp _ [⟨PySem.Expr.Tuple _ _ _, _, [], 0⟩] _ _) _) _ _ _); k_dflt (refine ListComp_E (_F₀ := by k_asm) (by rfl) (by decide) (by rfl) (by decide) (by rfl) (by rfl) (by decide) ?_)))
  k_with "eval ListComp" => ((k_here; (with_reducible show wpAny _ _ (eval (PySem.Expr.ListComp _ [⟨PySem.Expr.Name _ _, _, [], 0⟩] _ _) _) _ _ _); k_dflt (refine LCg.ListComp_U (F₀ := by k_asm) (by rfl) (by decide) (by rfl) (by decide) (by rfl) ?_)))
  k_with "call type:enumerate" => (refine stop9 ?_)
  k_with "exec Assign cons ListComp" => ((k_here; k_dflt (refine wpAny_Assign_Name ?_ (by rfl))))
  k_with "CompSrc" => (refine stop9 ?_)
  k_with "CompEnd" => (refine stop9 ?_)
  k_with "FinE" => (((unfold LCg.FinE); intro Z1dXa Z1dXd Z1dXf Z1dXb Z1dXc Z1dXe; (try simp only [List.nil_append, List.cons_append] at Z1dXc); (try dsimp only)))
  k_with "FinA" => (((unfold LCg.FinA); intro Z1eXa Z1eXd Z1eXf Z1eXb Z1eXc Z1eXe; (try simp only [List.nil_append, List.cons_append] at Z1eXc); (try dsimp only)))
  k_with "m_k_ne" => (first | (refine neN ?_; (try dsimp only); omega) | exact off1_ne (by assumption) (by k_mem) | exact Ne.symm (off1_ne (by assumption) (by k_mem)))
  k_with "eval ListComp" => ((k_here; (with_reducible show wpAny _ _ (eval (PySem.Expr.ListComp _ [⟨PySem.Expr.Name _ _, _, [_], 0⟩] _ _) _) _ _ _); k_dflt (refine LCt.ListComp_T (F₀ := by k_asm) (by rfl) (by decide) (by rfl) (by decide) (by rfl) ?_)))
  k_with "CompSrcT" => (refine stop9 ?_)
  k_with "S_laps" => ((intro Z1iXf; obtain ⟨Z1iXa, Z1iXj, Z1iXi, Z1iXh, Z1iXc, Z1iXd, Z1iXe⟩ := Z1iXf; subst Z1iXh; (obtain ⟨Z1iXb, Z1iXg⟩ := news_add (by k_asm) (by k_asm) (by k_asm) Z1iXc Z1iXd)))
  k_with "S_il" => (((rename News _ _ _ _ => Z1jXa); exact ⟨_, News.get Z1jXa (by k_mem), rfl, _, rfl⟩))
  k_with "S_enterC0" => ((refine' code_defCG (news := []) ?Q1kXa ?Q1kXb ?Q1kXc ?Q1kXd ?Q1kXe ?Q1kXf ?Q1kXg ?Q1kXh ?Q1kXi ?Q1kXj ?Q1kXk ?Q1kXl ?Q1kXm ?Q1kXn ?_ ?Q1kXo ?Q1kXp ?Q1kXq; (case Q1kXf => exact rfl); (case Q1kXg => exact rfl); (case Q1kXh => assumption); (case Q1kXa => k_asm); (case Q1kXb => k_asm); (case Q1kXc => k_asm); (case Q1kXd => exact News.nil); (case Q1kXe => k_asm); (case Q1kXi => k_is); (case Q1kXj => k_is); (case Q1kXk => ktr_room); (case Q1kXl => exact BindsTo.of_eq rfl); (case Q1kXm => rfl); (case Q1kXn => decide); (case Q1kXo => exact rfl); (case Q1kXp => exact rfl); (case Q1kXq => exact rfl); k_whole; intro Z1kXj Z1kXd Z1kXk Z1kXo Z1kXi Z1kXc Z1kXb Z1kXe Z1kXh Z1kXa Z1kXg Z1kXf Z1kXm Z1kXl Z1kXn; (try dsimp only [List.map_nil, List.map_cons] at Z1kXl); (try k_lt Z1kXm); k_cells Z1kXh; (try simp only [List.cons_append, List.nil_append] at Z1kXe); (try dsimp only); (try k_lift Z1kXa); (try k_fold)))
  k_with "S_con" => (exact con_parts _ _ (by assumption) (by assumption))
  k_with "S_back" => ((intro Z1mXf; obtain ⟨Z1mXa, Z1mXk, Z1mXi, Z1mXh, Z1mXc, Z1mXd, Z1mXe⟩ := Z1mXf; subst Z1mXh; (obtain ⟨Z1mXb, Z1mXg⟩ := news_add (by k_asm) (by k_asm) (by k_asm) Z1mXc Z1mXd); (have Z1mXj := allNe_off Z1mXg)))
  k_with "call type:set cons nil" => ((k_here; (with_reducible show wpAny _ _ (call (Value.type "set") [Value.ref _]) _ _ _); k_dflt (refine' set_N ?Q1nXa ?Q1nXb ?Q1nXc ?Q1nXd ?Q1nXe ?Q1nXf ?_; (case Q1nXa => exact rfl); (case Q1nXb => k_asm); (case Q1nXc => k_asm); (case Q1nXd => walk_at "S_il"); (case Q1nXe => assumption); (case Q1nXf => assumption)); (intro Z1nXa Z1nXf Z1nXd Z1nXh Z1nXb Z1nXc Z1nXe Z1nXg); (try k_lt Z1nXe)))
  k_with "compareOp Eq ref ref" => ((k_here; (with_reducible show wpAny _ _ (compareOp CmpOp.Eq (Value.ref _) (Value.ref _)) _ _ _); k_dflt (refine' r_eqNil ?Q1oXa ?Q1oXb ?Q1oXc ?Q1oXd ?Q1oXe ?Q1oXf ?Q1oXg ?_; (case Q1oXd => k_asm); (case Q1oXa => walk_at "S_il"); (case Q1oXb => walk_at "S_il"); (case Q1oXc => assumption); (case Q1oXe => (intro Z1oXb Z1oXa; repeat first | exact Z1oXa | apply List.mem_cons_of_mem)); (case Q1oXf => assumption); (case Q1oXg => ke_room))))
  k_with "call builtin:min" => (refine stop9 ?_)
  k_with "compareOp In str ref" => ((k_here; (with_reducible show wpAny _ _ (compareOp CmpOp.In (Value.str (S _) _) (Value.ref _)) _ _ _); k_dflt (refine' r_inSet ?Q1qXa ?Q1qXb ?Q1qXc ?Q1qXd ?_; (case Q1qXa => k_asm); (case Q1qXb => k_mem); (case Q1qXc => assumption); (case Q1qXd => assumption)); intro _))
  k_with "compareOp NotIn str ref" => ((k_here; (with_reducible show wpAny _ _ (compareOp CmpOp.NotIn (Value.str (S _) _) (Value.ref _)) _ _ _); k_dflt (refine' r_notInSet ?Q1rXa ?Q1rXb ?Q1rXc ?Q1rXd ?_; (case Q1rXa => k_asm); (case Q1rXb => k_mem); (case Q1rXc => assumption); (case Q1rXd => assumption)); intro _))
  trivial
theorem due_name {g h : Heap} {L P3 S2 P2 S1 P1 : Addr} {v3 v2 v1 : List Value} {k3 k2 k1 : Nat} {o2 o1 c2 c1 : Obj} (N : News g L h [(P3, listOf v3.toArray k3), (S2, o2), (P2, listOf v2.toArray k2), (S1, o1), (P1, listOf v1.toArray k1), (L + 1 + 1, c2), (L + 1, c1)]) :
    ∃ (P3' S2' S1' : Addr) (o2' o1' c2' c1' : Obj) (v3' : List Value) (k3' : Nat), P3' = P3 ∧ S2' = S2 ∧ S1' = S1 ∧ o2' = o2 ∧ o1' = o1 ∧ c2' = c2 ∧ c1' = c1 ∧ v3' = v3 ∧ k3' = k3 ∧ News g L h [(P3', listOf v3'.toArray k3'), (S2', o2'), (S1', o1'), (L + 1 + 1, c2'), (L + 1, c1')] :=
  ⟨_, _, _, _, _, _, _, _, _, rfl, rfl, rfl, rfl, rfl, rfl, rfl, rfl, rfl, news_sub N (by lcg_sub)⟩
theorem head_list {g h : Heap} {L P : Addr} {v : List Value} {k : Nat} {l : List (Addr × Obj)} (_N : News g L h ((P, listOf v.toArray k) :: l)) : ∃ (v' : List Value) (k' : Nat), v' = v ∧ k' = k := ⟨v, k, rfl, rfl⟩
noncomputable def apTo (H T : List Nat) (i : Nat) : List (Int × List Nat) := (((partsL H).take i).filter fun r => !decide (r ∈ partsL T)).map fun r => (((r.length : Nat) : Int), r)
theorem ap_yes {H T : List Nat} {i : Nat} {r : List Nat} (h : (partsL H)[i]? = some r) (hn : (!decide (r ∈ partsL T)) = true) : apTo H T (i + 1) = apTo H T i ++ [(((r.length : Nat) : Int), r)] := by
  unfold apTo
  rw [List.take_add_one, h, List.filter_append, List.map_append]
  simp only [Option.toList, List.filter_cons, hn, if_true, List.filter_nil, List.map_cons, List.map_nil]
theorem ap_no {H T : List Nat} {i : Nat} {r : List Nat} (h : (partsL H)[i]? = some r) (hn : (!decide (r ∈ partsL T)) = false) : apTo H T (i + 1) = apTo H T i := by
  unfold apTo
  rw [List.take_add_one, h, List.filter_append, List.map_append]
  simp only [Option.toList, List.filter_cons, hn, Bool.false_eq_true, if_false, List.filter_nil, List.map_nil, List.append_nil]
theorem ap_len (H T : List Nat) (i : Nat) : (apTo H T i).length ≤ (partsL H).length := by
  unfold apTo
  rw [List.length_map]
  exact Nat.le_trans (List.length_filter_le _ _) (by rw [List.length_take]; exact Nat.min_le_right _ _)
theorem PairsAre.append {vs ws : List Value} {tl tl2 : List (Addr × Obj)} {l k : List (Int × List Nat)} (h : PairsAre vs tl l) (h2 : PairsAre ws tl2 k) : PairsAre (vs ++ ws) (tl2 ++ tl) (l ++ k) := by
  induction h2 with
  | nil => simpa using h
  | snoc T p t u _ ih =>
    rw [← List.append_assoc, ← List.append_assoc]
    exact PairsAre.snoc T p t u ih
theorem parts_mem {x : List Nat} {P : Nat → Prop} (h : ∀ c ∈ x, P c) : ∀ y ∈ partsL x, ∀ c ∈ y, P c := by
  have key : ∀ (x : List Nat) (rows : List (List Nat)), (∀ c ∈ x, P c) → (∀ y ∈ rows, ∀ c ∈ y, P c) → ∀ y ∈ x.foldl (fun rows c => rows ++ rows.map (· ++ [c])) rows, ∀ c ∈ y, P c := by
    intro x
    induction x with
    | nil => intro rows _ h2 y hy; exact h2 y hy
    | cons c x ih =>
      intro rows h1 h2
      refine ih _ (fun d hd => h1 d (.tail _ hd)) (fun y hy => ?_)
      rcases List.mem_append.mp hy with hy | hy
      · exact h2 y hy
      · obtain ⟨z, hz, rfl⟩ := List.mem_map.mp hy
        intro d hd
        rcases List.mem_append.mp hd with hd | hd
        · exact h2 z hz d hd
        · rw [List.mem_singleton.mp hd]; exact h1 c (.head _)
  exact key x [[]] h (by simp)
theorem ap_ok {H T : List Nat} {i : Nat} {p : Int × List Nat} (h : ∀ c ∈ H, c < 128) (hp : p ∈ apTo H T i) : p.2.all (· < 0x110000) = true := by
  obtain ⟨r, hr, rfl⟩ := List.mem_map.mp hp
  have hr2 := List.mem_of_mem_take (List.mem_filter.mp hr).1
  rw [List.all_eq_true]
  intro c hc
  have := parts_mem h r hr2 c hc
  exact decide_eq_true (by omega)
noncomputable def apartL (H T : List Nat) : List (Int × List Nat) := ((partsL H).filter fun r => !decide (r ∈ partsL T)).map fun r => (((r.length : Nat) : Int), r)
theorem ap_all {H T : List Nat} {n : Nat} (h : (partsL H).length ≤ n) : apTo H T n = apartL H T := by unfold apTo apartL; rw [List.take_of_length_le h]
theorem news_put {g h : Heap} {L : Addr} {x : Addr × Obj} {l : List (Addr × Obj)} (N : News g L h l) (hx : x ∈ l) : News g L h (x :: l) := news_sub N fun q hq => by
  rcases List.mem_cons.mp hq with rfl | hq
  · exact hx
  · exact hq
noncomputable def dueL (H T : List Nat) : List (List Nat × Bool) :=
  if apartL H T ++ apartL T H = [] then [] else [((minP (apartL H T ++ apartL T H)).2, decide ((minP (apartL H T ++ apartL T H)).2 ∈ partsL H))]
theorem due_in {g h h0 : Heap} {L R T U : Addr} {x : List Nat} {t t1 t2 : Tok} {l : List (Addr × Obj)} (N : News g L h ((R, listOf [Value.ref T].toArray 0) :: (T, tupObj [.str (S x) t, .ref U]) :: (U, tupObj [.str (PySem.Str.ofString "in") t1, .str (PySem.Str.ofString "out") t2]) :: l))
    (hn : ∀ q ∈ ((R, listOf [Value.ref T].toArray 0) :: (T, tupObj [.str (S x) t, .ref U]) :: (U, tupObj [.str (PySem.Str.ofString "in") t1, .str (PySem.Str.ofString "out") t2]) :: l), h0.get? q.1 = none) :
    ∃ D vs k tl, Value.ref R = .ref D ∧ FoundAre vs tl [(x, true)] ∧ ∀ q ∈ (D, listOf vs.toArray k) :: tl, h.get? q.1 = some q.2 ∧ h0.get? q.1 = none := by
  rw [lit_in, lit_out] at N hn
  refine ⟨R, [.ref T], 0, _, rfl, FoundAre.snoc T U x true t t1 t2 .nil, fun q hq => ?_⟩
  have hm : q ∈ ((R, listOf [Value.ref T].toArray 0) :: (T, tupObj [.str (S x) t, .ref U]) :: (U, tupObj [.str (S (sayL true)) t1, .str (S (sayL (!true))) t2]) :: l) := by
    rcases List.mem_cons.mp hq with rfl | hq
    · exact .head _
    rcases List.mem_cons.mp hq with rfl | hq
    · exact .tail _ (.head _)
    rcases List.mem_cons.mp hq with rfl | hq
    · exact .tail _ (.tail _ (.head _))
    · exact absurd hq List.not_mem_nil
  exact ⟨(N q hm).1, hn q hm⟩
theorem due_out {g h h0 : Heap} {L R T U : Addr} {x : List Nat} {t t1 t2 : Tok} {l : List (Addr × Obj)} (N : News g L h ((R, listOf [Value.ref T].toArray 0) :: (T, tupObj [.str (S x) t, .ref U]) :: (U, tupObj [.str (PySem.Str.ofString "out") t1, .str (PySem.Str.ofString "in") t2]) :: l))
    (hn : ∀ q ∈ ((R, listOf [Value.ref T].toArray 0) :: (T, tupObj [.str (S x) t, .ref U]) :: (U, tupObj [.str (PySem.Str.ofString "out") t1, .str (PySem.Str.ofString "in") t2]) :: l), h0.get? q.1 = none) :
    ∃ D vs k tl, Value.ref R = .ref D ∧ FoundAre vs tl [(x, false)] ∧ ∀ q ∈ (D, listOf vs.toArray k) :: tl, h.get? q.1 = some q.2 ∧ h0.get? q.1 = none := by
  rw [lit_in, lit_out] at N hn
  refine ⟨R, [.ref T], 0, _, rfl, FoundAre.snoc T U x false t t1 t2 .nil, fun q hq => ?_⟩
  have hm : q ∈ ((R, listOf [Value.ref T].toArray 0) :: (T, tupObj [.str (S x) t, .ref U]) :: (U, tupObj [.str (S (sayL false)) t1, .str (S (sayL (!false))) t2]) :: l) := by
    rcases List.mem_cons.mp hq with rfl | hq
    · exact .head _
    rcases List.mem_cons.mp hq with rfl | hq
    · exact .tail _ (.head _)
    rcases List.mem_cons.mp hq with rfl | hq
    · exact .tail _ (.tail _ (.head _))
    · exact absurd hq List.not_mem_nil
  exact ⟨(N q hm).1, hn q hm⟩
theorem con_due {w : World} {p loose mean mg mb} (H T : List Nat) (tH tT : Tok) (hH : H.length ≤ 5) (hT : T.length ≤ 5) (h8 : ∀ c ∈ H, c < 128) (h8' : ∀ c ∈ T, c < 128) :
    PCon 8 Challenge.pw_sc0056_02 w (hd.heap_1 w.params) p loose mean mg mb 144 [.str (S H) tH, .str (S T) tT] (fun h h' v => ∃ D vs k tl, v = .ref D ∧ FoundAre vs tl (dueL H T) ∧ ∀ q ∈ (D, listOf vs.toArray k) :: tl, h'.get? q.1 = some q.2 ∧ h.get? q.1 = none) := by
  have bH : (partsL H).length ≤ 100 := by rw [parts_len]; exact Nat.le_trans (Nat.pow_le_pow_right (by decide) hH) (by decide)
  have bT : (partsL T).length ≤ 100 := by rw [parts_len]; exact Nat.le_trans (Nat.pow_le_pow_right (by decide) hT) (by decide)
  dsimp only [PCon]
  intros
  rename_i hret
  refine wpAny_call ?_
  k_dflt (walk_at "S_enterC0")
  rename GSub _ _ _ => hG
  (try clear sfl)
  k_steps
  refine Stop9.go ?_
  rename Fr _ _ _ _ => F1
  rename News _ _ _ _ => N1
  obtain ⟨L9, rfl⟩ := fr_loc F1
  obtain ⟨P3, S2, S1, o2, o1, c2, c1, v3, k3, rfl, rfl, rfl, rfl, rfl, rfl, rfl, rfl, rfl, NB⟩ := due_name N1
  clear N1
  rename StrsAre v3 _ => hS3
  have hv3 : v3.length ≤ 100 := by rw [hS3.length]; exact bH
  k_dflt (refine LCt.CompSrcT.ledger rfl F1 NB (.head _) (by rw [List.size_toArray, PySem.sizeLine_eq]; omega) fun g' => ?_)
  refine rest_indT (J := fun i ys news => ∃ tl, PairsAre ys tl (apTo H T i) ∧ news = (P3, listOf v3.toArray k3) :: (S2, o2) :: (S1, o1) :: (L9 + 1 + 1, c2) :: (L9 + 1, c1) :: tl) ?step ?fin _ 0 _ _ (Nat.zero_add _) ⟨[], .nil, rfl⟩
  case step =>
    clear NB F1
    rintro i v ys news I oI C oC D m2 h2 tk2 E9 hi hP ⟨tl, hJ, rfl⟩ hC2 hx F2 N2 off ne
    obtain ⟨row, tr, rfl, hrow⟩ := strs_at hS3 (by simpa using hP)
    have hr5 : row.length ≤ 5 := Nat.le_trans (parts_le H row (List.mem_of_getElem? hrow)) hH
    dsimp only
    k_steps
    · rename row ∈ partsL T => hin
      rename Fr _ _ _ _ => F5
      rename News _ _ _ _ => N5
      refine Stop9.go (CompEnd.intro F5 N5 _ ?s1 off ?r1 ⟨tl, ?_, rfl⟩)
      case s1 => (intro p hp; repeat first | exact hp | apply List.mem_cons_of_mem)
      case r1 => lcg_src
      rw [ap_no hrow (by simp [hin])]
      exact hJ
    · rename ¬ row ∈ partsL T => hin
      rename Fr _ _ _ _ => F5
      rename News _ _ _ _ => N5
      obtain ⟨T9, rfl⟩ := head_addr N5
      rename @LT.lt Nat _ I T9 ∧ _ => lT
      refine' Stop9.go (CompEnd.intro F5 N5 ((P3, listOf v3.toArray k3) :: (S2, o2) :: (S1, o1) :: (L9 + 1 + 1, c2) :: (L9 + 1, c1) :: (T9, _) :: tl) ?s2 ⟨off.1, off.2.1, off.2.2.1, off.2.2.2.1, off.2.2.2.2.1, ⟨Nat.ne_of_gt lT.1, Nat.ne_of_gt lT.2.1, Nat.ne_of_gt lT.2.2.1⟩, off.2.2.2.2.2⟩ ?r2 ⟨(T9, _) :: tl, ?_, rfl⟩)
      case s2 => (intro p hp; (repeat (rcases List.mem_cons.mp hp with rfl | hp; · k_mem)); repeat first | exact hp | apply List.mem_cons_of_mem)
      case r2 => lcg_src
      rw [ap_yes hrow (by simp [hin])]
      exact PairsAre.snoc T9 (((row.length : Nat) : Int), row) _ tr hJ
  case fin =>
    rintro ys news ⟨tl, hJ, rfl⟩
    clear NB F1
    intro D5 h5 tk5 F5 N5 o5
    dsimp only
    k_steps
    refine Stop9.go ?_
    rename Fr _ _ _ _ => F6
    rename News _ _ _ _ => N6
    obtain ⟨P4, rfl⟩ := head_addr N6
    rename StrsAre _ (partsL T) => hS4
    obtain ⟨v4, k4, rfl, rfl⟩ := head_list N6
    have hv4 : v4.length ≤ 100 := by rw [hS4.length]; exact bT
    k_dflt (refine LCt.CompSrcT.ledger rfl F6 N6 (.head _) (by rw [List.size_toArray, PySem.sizeLine_eq]; omega) fun g' => ?_)
    refine rest_indT (J := fun i zs news => ∃ tl2, PairsAre zs tl2 (apTo T H i) ∧ news = (P4, listOf v4.toArray k4) :: (D5, LCg.lst ys) :: (P3, listOf v3.toArray k3) :: (S2, o2) :: (S1, o1) :: (L9 + 1 + 1, c2) :: (L9 + 1, c1) :: (tl2 ++ tl)) ?step2 ?fin2 _ 0 _ _ (Nat.zero_add _) ⟨[], .nil, rfl⟩
    case step2 =>
      clear N6 F6
      rintro i v zs news I oI C oC D m2 h2 tk2 E9 hi hP ⟨tl2, hK, rfl⟩ hC2 hx F2 N2 off ne
      obtain ⟨row, tr, rfl, hrow⟩ := strs_at hS4 (by simpa using hP)
      have hr5 : row.length ≤ 5 := Nat.le_trans (parts_le T row (List.mem_of_getElem? hrow)) hT
      dsimp only
      k_steps
      · rename row ∈ partsL H => hin
        rename Fr _ _ _ _ => F7
        rename News _ _ _ _ => N7
        refine Stop9.go (CompEnd.intro F7 N7 _ ?s3 off ?r3 ⟨tl2, ?_, rfl⟩)
        case s3 => (intro p hp; repeat first | exact hp | apply List.mem_cons_of_mem)
        case r3 => lcg_src
        rw [ap_no hrow (by simp [hin])]
        exact hK
      · rename ¬ row ∈ partsL H => hin
        rename Fr _ _ _ _ => F7
        rename News _ _ _ _ => N7
        obtain ⟨T9, rfl⟩ := head_addr N7
        rename @LT.lt Nat _ I T9 ∧ _ => lT
        refine' Stop9.go (CompEnd.intro F7 N7 ((P4, listOf v4.toArray k4) :: (D5, LCg.lst ys) :: (P3, listOf v3.toArray k3) :: (S2, o2) :: (S1, o1) :: (L9 + 1 + 1, c2) :: (L9 + 1, c1) :: (T9, _) :: (tl2 ++ tl)) ?s4 ⟨off.1, off.2.1, off.2.2.1, off.2.2.2.1, off.2.2.2.2.1, off.2.2.2.2.2.1, off.2.2.2.2.2.2.1, ⟨Nat.ne_of_gt lT.1, Nat.ne_of_gt lT.2.1, Nat.ne_of_gt lT.2.2.1⟩, off.2.2.2.2.2.2.2⟩ ?r4 ⟨(T9, _) :: tl2, ?_, rfl⟩)
        case s4 => (intro p hp; (repeat (rcases List.mem_cons.mp hp with rfl | hp; · k_mem)); repeat first | exact hp | apply List.mem_cons_of_mem)
        case r4 => lcg_src
        rw [ap_yes hrow (by simp [hin])]
        exact PairsAre.snoc T9 (((row.length : Nat) : Int), row) _ tr hK
    case fin2 =>
      rintro zs news ⟨tl2, hK, rfl⟩
      clear N6 F6
      intro D6 h6 tk6 F7 N7 o6
      dsimp only
      k_steps
      rename Fr _ _ _ _ => F8
      rename News _ _ _ _ => N8
      have hys : ys.length ≤ 100 := Nat.le_trans (by rw [hJ.length]; exact ap_len _ _ _) bH
      have hzs : zs.length ≤ 100 := Nat.le_trans (by rw [hK.length]; exact ap_len _ _ _) bT
      have hA := hJ.append hK
      k_dflt (refine add_lists F8 N8 ⟨_, News.get N8 (show (D5, LCg.lst ys) ∈ _ by k_mem), rfl, _, rfl⟩ ⟨_, News.get N8 (.head _), rfl, _, rfl⟩ (fun h7 F9 N9 => ?_) (by rw [PySem.sizeLine_eq]; omega))
      obtain ⟨D7, hD7⟩ := head_addr N9
      rw [← hD7] at N9 ⊢
      clear N8 F8 hD7
      have hOk : ∀ p ∈ apTo H T v3.toArray.size ++ apTo T H v4.toArray.size, p.2.all (· < 0x110000) = true := by
        intro p hp
        rcases List.mem_append.mp hp with hp | hp
        · exact ap_ok h8 hp
        · exact ap_ok h8' hp
      have e1 : apTo H T v3.toArray.size = apartL H T := ap_all (by rw [List.size_toArray, hS3.length]; exact Nat.le_refl _)
      have e2 : apTo T H v4.toArray.size = apartL T H := ap_all (by rw [List.size_toArray, hS4.length]; exact Nat.le_refl _)
      rw [e1, e2] at hA hOk
      k_steps
      · rename @Eq (List (Int × List Nat)) _ _ => he
        rename News _ L9 _ _ => N9
        refine hret _ _ _ (pc_kept hG (by assumption)) ⟨_, [], 0, [], rfl, by rw [dueL, if_pos he]; exact .nil, fun q hq => ?_⟩
        rw [List.mem_singleton.mp hq]
        exact ⟨News.get N9 (.head _), gsub_none hG (News.fresh N9 (.head _))⟩
      · rename ¬ @Eq (List (Int × List Nat)) _ _ => he
        refine Stop9.go ?_
        rename Fr _ _ _ _ => F9
        rename News _ _ _ _ => N9
        k_dflt (refine r_min rfl F9 N9 ⟨_, News.get N9 (show (D7, _) ∈ _ by k_mem), rfl, _, rfl⟩ hA (fun q hq => by repeat first | exact hq | apply List.mem_cons_of_mem) he (by ke_room) fun T9 t9 u9 h9 tk9 F' N' hm' => ?_)
        have NM := news_put N' (show (T9, pairO (minP (apartL H T ++ apartL T H)) t9 u9) ∈ _ by repeat first | exact hm' | apply List.mem_cons_of_mem)
        clear N' N9 F9
        generalize hmp : minP (apartL H T ++ apartL T H) = mp at NM
        obtain ⟨mi, mw⟩ := mp
        dsimp only
        k_steps
        · rename mw ∈ partsL H => hin
          rename News _ L9 _ _ => N9
          refine hret _ _ _ (pc_kept hG (by assumption)) ?_
          rw [dueL, if_neg he, hmp]
          dsimp only
          rw [decide_eq_true hin]
          exact due_in N9 fun q hq => gsub_none hG (News.fresh N9 hq)
        · rename ¬ mw ∈ partsL H => hin
          rename News _ L9 _ _ => N9
          refine hret _ _ _ (pc_kept hG (by assumption)) ?_
          rw [dueL, if_neg he, hmp]
          dsimp only
          rw [decide_eq_false hin]
          exact due_out N9 fun q hq => gsub_none hG (News.fresh N9 hq)
end
section
example : True := by
  k_with_none
  w_top off
  k_with "olt" => (first | assumption | ((fail_if_success refine oM ?_); refine oL ?_; k_extra "ole") | k_extra "olh")
  k_with "olh" => (refine oH (by assumption) (by k_extra "ole"))
  k_with "ole" => (first | exact Nat.le_refl _ | assumption | exact oB | ((first | refine oA ?_ | refine oA2 ?_ | refine oA3 ?_); k_extra "ocl") | (refine oS ?_; k_extra "ole") | (refine Nat.le_of_lt ?_; (first | assumption | k_extra "olh")) | exact oE)
  k_with "olt2" => (first | k_extra "oas" | ((fail_if_success refine oM ?_); refine oL ?_; k_extra "ole2") | k_extra "olh2")
  k_with "olh2" => (refine oH (by k_extra "oas") (by k_extra "ole2"))
  k_with "ole2" => (first | exact Nat.le_refl _ | k_extra "oas" | exact oB | ((first | refine oA ?_ | refine oA2 ?_ | refine oA3 ?_); k_extra "ocl") | (refine oS ?_; k_extra "ole2") | (refine Nat.le_of_lt ?_; (first | k_extra "oas" | k_extra "olh2")) | exact oE)
  k_with "opu" => (first | exact oB | exact Nat.le_refl _ | (refine oS ?_; k_extra "opu"))
  k_with "olt0" => (refine oL ?_; k_extra "opu")
  k_with "one" => (first | (refine Nat.ne_of_gt ?_; (fail_if_success refine oM ?_); k_extra "olt0") | (refine Nat.ne_of_lt ?_; (fail_if_success refine oM ?_); k_extra "olt0") | exact Ne.symm (by assumption) | (refine Nat.ne_of_gt ?_; (fail_if_success refine oM ?_); k_extra "oas") | (refine Nat.ne_of_lt ?_; (fail_if_success refine oM ?_); k_extra "oas") | (refine Nat.ne_of_gt ?_; (fail_if_success refine oM ?_); k_extra "odd") | (refine Nat.ne_of_lt ?_; (fail_if_success refine oM ?_); k_extra "odd") | (refine Nat.ne_of_gt ?_; (fail_if_success refine oM ?_); k_extra "olt") | (refine Nat.ne_of_lt ?_; (fail_if_success refine oM ?_); k_extra "olt") | (refine Nat.ne_of_gt ?_; (fail_if_success refine oM ?_); k_extra "olt2") | (refine Nat.ne_of_lt ?_; (fail_if_success refine oM ?_); k_extra "olt2") | decide)
  k_with "ol1" => (first | ((fail_if_success refine oM ?_); first | k_extra "oas" | k_extra "olt0" | k_extra "odd" | k_extra "olt" | k_extra "olt2") | k_extra "ocl" | exact oT0 | exact oT5)
  k_with "oe1" => (first | ((fail_if_success refine oN ?_); first | k_extra "oas" | k_extra "opu" | k_extra "ole" | k_extra "ole2" | exact oE (by k_extra "oas")) | k_extra "ocl" | k_extra "olit" | k_extra "oas")
  k_with "olit" => (first | exact oT4 | exact oP | exact oP2 | exact oT1 | exact oT2 | exact oT3 | exact oQ5 | exact oQ1 | exact oQ2 | exact oQ3 | exact oQ4 | exact oQ6 | exact oD)
  k_with "ocl" => (with_unfolding_all exact Nat.le_of_ble_eq_true rfl)
  k_with "oas" => (first | assumption | exact oa1 | exact ob1 | exact oa2 | exact ob2 | exact oa3 | exact ob3 | exact oa4 | exact ob4 | exact oa5 | exact ob5 | exact oa6 | exact ob6 | exact oa7 | exact ob7)
  k_with "odd" => (first | exact oa1 ob7 | exact oa2 ob7 | exact oa3 ob7 | exact oa4 ob7 | exact oa5 ob7 | exact oa6 ob7 | exact oa7 ob7 | exact oa1 (ob7 ob7) | exact oa2 (ob7 ob7) | exact oa3 (ob7 ob7) | exact oa4 (ob7 ob7) | exact oa5 (ob7 ob7) | exact oa6 (ob7 ob7) | exact oa7 (ob7 ob7) | exact ob1 ob7 | exact ob2 ob7 | exact ob3 ob7 | exact ob4 ob7 | exact ob5 ob7 | exact ob6 ob7 | exact ob7 ob7)
  k_with "oin" => (first | decide | exact oI1 | exact oI3 | exact oI2 (by k_extra "oas"))
  k_with "om" => (with_reducible first | (first | assumption | ((fail_if_success fail_if_success refine oXn ?_); k_extra "one") | ((fail_if_success fail_if_success refine oXl ?_); k_extra "ol1") | ((fail_if_success fail_if_success refine oXe ?_); k_extra "oe1") | k_extra "oin") | fail)
  k_with "S_fit" => (first | omega | ((simp only [S_len, List.length_append, List.length_cons, List.length_nil, List.length_take, List.length_drop, dots, PySem.sizeLine_eq]); omega))
  k_with "call builtin:len" => (((with_reducible show wpAny _ _ (call (Value.builtin "len") [Value.str (S _) _]) _ _ _); refine r_len (by walk_at "S_fit") ?_))
  k_with "call builtin:str.startswith" => (((with_reducible show wpAny _ _ (call (Value.builtin "str.startswith") [Value.str (S _) _, Value.str (S _) _]) _ _ _); refine r_starts ?_))
  k_with "call builtin:str.endswith" => (((with_reducible show wpAny _ _ (call (Value.builtin "str.endswith") [Value.str (S _) _, Value.str (S _) _]) _ _ _); refine r_ends ?_))
  k_with "truthy str" => (((with_reducible show wpAny _ _ (truthy (Value.str (S _) _)) _ _ _); refine r_truthy (by walk_at "S_fit") ?_))
  k_with "exec For Name Name cons nil" => ((k_here; (rename Fr _ _ _ _ => Z6Xa); (with_unfolding_all refine' For_invVF Z6Xa ?Q6Xa ?Q6Xb ?_; (case Q6Xa => exact rfl); (case Q6Xb => exact rfl); k_whole)))
  k_with "pyIter ref" => (((with_reducible show wpAny _ _ (pyIter (Value.ref _)) (fun it s₂ => LoopAtV _ _ _ _ _ _ _ _ _ it s₂) _ _); k_listUnr))
  k_with "S_enter" => ((refine' code_defG (news := []) ?Q8Xa ?Q8Xb ?Q8Xc ?Q8Xd ?Q8Xe ?Q8Xf ?Q8Xg ?Q8Xh ?Q8Xi ?Q8Xj ?Q8Xk ?Q8Xl ?Q8Xm ?_ ?Q8Xn ?Q8Xo ?Q8Xp ?Q8Xq; (case Q8Xf => exact rfl); (case Q8Xg => exact rfl); (case Q8Xh => assumption); (case Q8Xa => k_asm); (case Q8Xb => k_asm); (case Q8Xc => k_asm); (case Q8Xd => exact News.nil); (case Q8Xe => k_asm); (case Q8Xi => k_is); (case Q8Xj => k_is); (case Q8Xk => ktr_room); (case Q8Xl => exact BindsTo.of_eq rfl); (case Q8Xq => decide); (case Q8Xm => exact locs rfl); (case Q8Xn => exact rfl); (case Q8Xo => exact rfl); (case Q8Xp => exact rfl); k_whole; intro Z8Xh Z8Xd Z8Xi Z8Xc Z8Xb Z8Xe Z8Xa Z8Xg Z8Xf Z8Xj; (try dsimp only [List.map_nil] at Z8Xj); (try dsimp only); (try k_lift Z8Xa); (try k_fold)))
  k_with "S_look" => (first | exact rfl | assumption | exact (if_pos rfl) | (refine (if_neg (by decide)).trans ?_; walk_at "S_look"))
  k_with "eval Name" => ((k_here; k_dflt (refine' nameX_L ?QaXa ?QaXb ?_ ?QaXc ?QaXd; (case QaXa => k_asm); (case QaXc => rfl); (case QaXd => rfl); (case QaXb => walk_at "S_look"); k_whole)))
  k_with "S_lit" => (first | (with_reducible exact lit_dots) | (with_reducible rfl))
  k_with "S_nn" => (first | omega | ((simp only [List.length_append, List.length_cons, List.length_nil, List.length_take, List.length_drop, dots] at *); omega))
  k_with "binaryOp Add str str" => (((with_reducible show wpAny _ _ (binaryOp _ (Value.str _ _) (Value.str _ _)) _ _ _); k_dflt (refine r_add (by walk_at "S_lit") (by walk_at "S_lit") (by walk_at "S_fit") ?_); intro _ _))
  k_with "subscriptTail Name Slice str ref" => (((with_reducible show wpAny _ _ (subscriptTail _ (Expr.Slice none (some _) none _) (Value.str (S _) _) _) _ _ _); (with_reducible rename Fr _ _ _ _ => ZeXa); (with_reducible rename News _ _ _ _ => ZeXb); (refine r_sliceTo (s := ⟨_, _, _, _, _⟩) ZeXa ZeXb (by walk_at "S_nn") (by walk_at "S_fit") ?_); intro _ _ _ _ _))
  k_with "subscriptTail Name Slice str ref" => (((with_reducible show wpAny _ _ (subscriptTail _ (Expr.Slice (some _) none none _) (Value.str (S _) _) _) _ _ _); (with_reducible rename Fr _ _ _ _ => ZfXa); (with_reducible rename News _ _ _ _ => ZfXb); (refine r_sliceFrom (s := ⟨_, _, _, _, _⟩) ZfXa ZfXb (by walk_at "S_nn") (by walk_at "S_fit") ?_); intro _ _ _ _ _))
  k_with "exec For Name Call cons nil" => ((k_here; (rename Fr _ _ _ _ => ZgXa); (with_unfolding_all refine' For_invVF ZgXa ?QgXa ?QgXb ?_; (case QgXa => exact rfl); (case QgXb => exact rfl); k_whole)))
  k_with "S_use" => ((refine' pcon_use ?QhXa ?QhXb ?QhXc ?QhXd ?QhXe ?QhXf ?QhXg ?QhXh ?_; (case QhXb => k_asm); (case QhXc => k_asm); (case QhXd => k_asm); (case QhXe => k_asm); (case QhXa => walk_at "S_con"); (case QhXf => first | exact rfl | assumption); (case QhXg => ktr_room); (case QhXh => ktr_units)))
  k_with "call ref" => ((k_here; k_dflt (walk_at "S_use"); intro ZiXf ZiXd ZiXe ZiXb; (have ZiXa := Fr.keeps (by k_asm) ZiXb); (have ZiXc := News.grown (by k_asm) ZiXb); walk_at "S_back" <;> ((try dsimp only); (try k_fold))))
  k_with "pyIter ref" => (k_extra "S_loop")
  k_with "S_bool" => ((intro ZkXa; (rcases bool_or ZkXa with ⟨R8, R7⟩ | ⟨R8, R7⟩) <;> subst R7))
  k_with "call builtin:list.append" => ((k_here; (with_reducible show wpAny _ _ (call (Value.builtin _) [Value.ref _, _]) _ _ _); k_dflt (refine' append_K ?QlXa ?QlXb ?QlXc ?_ ?QlXd; (case QlXa => k_asm); (case QlXb => k_asm); (case QlXc => k_upd); (case QlXd => exact size_ok (k := 100000) (by omega) (by decide)); k_whole); intro ZlXc ZlXa ZlXb; (try k_sweep)))
  k_with "m_k_room" => (ktr_room)
  k_with "m_k_units" => (ktr_units)
  k_with "S_enterM" => ((refine' code_defG ?QoXa ?QoXb ?QoXc ?QoXd ?QoXe ?QoXf ?QoXg ?QoXh ?QoXi ?QoXj ?QoXk ?QoXl ?QoXm ?_ ?QoXn ?QoXo ?QoXp ?QoXq; (case QoXf => exact rfl); (case QoXg => exact rfl); (case QoXh => assumption); (case QoXa => k_asm); (case QoXb => k_asm); (case QoXc => k_asm); (case QoXd => k_asm); (case QoXe => k_asm); (case QoXi => k_is); (case QoXj => k_is); (case QoXk => ktr_room); (case QoXl => exact BindsTo.of_eq rfl); (case QoXq => decide); (case QoXm => exact locs rfl); (case QoXn => exact rfl); (case QoXo => exact rfl); (case QoXp => exact rfl); k_whole; intro ZoXh ZoXd ZoXi ZoXc ZoXb ZoXe ZoXa ZoXg ZoXf ZoXj; (try dsimp only [List.map_nil, List.map_cons] at ZoXj); (try dsimp only); (try k_lift ZoXa); (try k_fold)))
  k_with "callWith" => (((with_reducible show wpAny _ _ (callWith _ (Prod.fst _) (Prod.snd _) _ _) _ _ _); dsimp only))
  k_with "S_int" => (first | omega | decide | ((simp only [List.length_cons, List.length_nil, decide_eq_true_eq, decide_eq_false_iff_not, beq_iff_eq, beq_eq_false_iff_ne, ne_eq, Int.not_lt, Int.not_le] at *); omega))
  k_with "binaryOp FloorDiv int int" => (((with_reducible show wpAny _ _ (binaryOp _ (Value.int _ _) (Value.int _ _)) _ _ _); k_dflt (refine r_fdiv (by walk_at "S_int") (by walk_at "S_int") ?_); intro _ _))
  k_with "binaryOp Mod int int" => (((with_reducible show wpAny _ _ (binaryOp _ (Value.int _ _) (Value.int _ _)) _ _ _); k_dflt (refine r_fmod (by walk_at "S_int") ?_); intro _ _))
  k_with "S_item" => (((with_reducible show wpAny _ _ (subscriptTail _ _ (Value.str (S _) _) (Value.int _ _)) _ _ _); k_dflt (refine r_item (by walk_at "S_int") (by walk_at "S_int") (by walk_at "S_fit") ?_); intro _ _))
  k_with "subscriptTail Name BinOp str int" => (walk_at "S_item")
  k_with "subscriptTail Name Constant str int" => (walk_at "S_item")
  k_with "subscriptTail Name Name str int" => (walk_at "S_item")
  k_with "S_lit" => (first | (with_reducible exact lit_dots) | (with_reducible exact lit_empty) | (with_reducible exact lit34) | (with_reducible exact lit9234) | (with_reducible exact lit92) | (with_reducible exact lit10) | (with_reducible exact lit38) | (with_reducible exact lit59) | (with_reducible rfl))
  k_with "call builtin:str.replace" => (((with_reducible show wpAny _ _ (call (Value.builtin _) [Value.str (S _) _, Value.str _ _, Value.str _ _]) _ _ _); k_dflt (refine r_replace (by walk_at "S_lit") (by walk_at "S_lit") (by decide) (Nat.succ_ne_zero _) (Nat.succ_ne_zero _) (Nat.ne_of_lt (Nat.lt_succ_self _)) (by decide) (by walk_at "S_nn") ?_); intro _ _))
  k_with "call builtin:str.join" => ((k_here; (with_reducible show wpAny _ _ (call (Value.builtin _) [Value.str _ _, Value.ref _]) _ _ _); k_dflt (refine r_join (by walk_at "S_lit") (by walk_at "S_isl") (by walk_at "S_strs") (by walk_at "S_sum") ?_); intro _ _))
  k_with "S_isl" => (first | assumption | exact ⟨LCg.lst _, News.get (by k_asm) (by k_mem), rfl, _, rfl⟩ | is_list)
  k_with "S_strs" => (first | exact StrsAre.nil | assumption | (exact CharsAre.strs (by assumption)))
  k_with "binaryOp Mult str int" => (((with_reducible show wpAny _ _ (binaryOp _ (Value.str (S _) _) (Value.int _ _)) _ _ _); k_dflt (refine r_mul (by walk_at "S_int") (by walk_at "S_int") (by walk_at "S_nn") ?_); intro _ _))
  k_with "S_enterC" => ((refine' code_defCG ?Q13Xa ?Q13Xb ?Q13Xc ?Q13Xd ?Q13Xe ?Q13Xf ?Q13Xg ?Q13Xh ?Q13Xi ?Q13Xj ?Q13Xk ?Q13Xl ?Q13Xm ?Q13Xn ?_ ?Q13Xo ?Q13Xp ?Q13Xq; (case Q13Xf => exact rfl); (case Q13Xg => exact rfl); (case Q13Xh => assumption); (case Q13Xa => k_asm); (case Q13Xb => k_asm); (case Q13Xc => k_asm); (case Q13Xd => k_asm); (case Q13Xe => k_asm); (case Q13Xi => k_is); (case Q13Xj => k_is); (case Q13Xk => ktr_room); (case Q13Xl => exact BindsTo.of_eq rfl); (case Q13Xm => rfl); (case Q13Xn => decide); (case Q13Xo => exact rfl); (case Q13Xp => exact rfl); (case Q13Xq => exact rfl); k_whole; intro Z13Xj Z13Xd Z13Xk Z13Xo Z13Xi Z13Xc Z13Xb Z13Xe Z13Xh Z13Xa Z13Xg Z13Xf Z13Xm Z13Xl Z13Xn; (try dsimp only [List.map_nil, List.map_cons] at Z13Xl); (try k_lt Z13Xm); k_cells Z13Xh; (try simp only [List.cons_append, List.nil_append] at Z13Xe); (try dsimp only); (try k_lift Z13Xa); (try k_fold)))
  k_with "S_lcs" => ((k_here; k_dflt (refine ListComp_S (_F₀ := by k_asm) (by rfl) (by decide) (by rfl) (by decide) (by rfl) ?_)))
  k_with "S_lit" => (first | (with_reducible exact lit_dots) | (with_reducible exact lit_empty) | (with_reducible exact lit34) | (with_reducible exact lit9234) | (with_reducible exact lit92) | (with_reducible exact lit10) | (with_reducible exact lit38) | (with_reducible exact lit59) | (with_reducible exact lit60) | (with_reducible exact lit62) | (with_reducible exact lit13) | (with_reducible exact lit9) | (with_reducible exact litamp) | (with_reducible exact litlt) | (with_reducible exact litgt) | (with_reducible exact litquot) | (with_reducible rfl))
  k_with "S_sum" => (assumption)
  k_with "eval ListComp" => ((k_here; (with_reducible show wpAny _ _ (eval (PySem.Expr.ListComp _ [⟨PySem.Expr.Tuple _ _ _, _, [], 0⟩] _ _) _) _ _ _); k_dflt (refine ListComp_E (_F₀ := by k_asm) (by rfl) (by decide) (by rfl) (by decide) (by rfl) (by rfl) (by decide) ?_)))
  k_with "eval ListComp" => ((k_here; (with_reducible show wpAny _ _ (eval (PySem.Expr.ListComp _ [⟨PySem.Expr.Name _ _, _, [], 0⟩] _ _) _) _ _ _); k_dflt (refine LCg.ListComp_U (F₀ := by k_asm) (by rfl) (by decide) (by rfl) (by decide) (by rfl) ?_)))
  k_with "call type:enumerate" => (refine stop9 ?_)
  k_with "exec Assign cons ListComp" => ((k_here; k_dflt (refine wpAny_Assign_Name ?_ (by rfl))))
  k_with "CompSrc" => (refine stop9 ?_)
  k_with "CompEnd" => (refine stop9 ?_)
  k_with "FinE" => (((unfold LCg.FinE); intro Z1dXa Z1dXd Z1dXf Z1dXb Z1dXc Z1dXe; (try simp only [List.nil_append, List.cons_append] at Z1dXc); (try dsimp only)))
  k_with "FinA" => (((unfold LCg.FinA); intro Z1eXa Z1eXd Z1eXf Z1eXb Z1eXc Z1eXe; (try simp only [List.nil_append, List.cons_append] at Z1eXc); (try dsimp only)))
  k_with "m_k_ne" => (first | (refine neN ?_; (try dsimp only); omega) | exact off1_ne (by assumption) (by k_mem) | exact Ne.symm (off1_ne (by assumption) (by k_mem)))
  k_with "eval ListComp" => ((k_here; (with_reducible show wpAny _ _ (eval (PySem.Expr.ListComp _ [⟨PySem.Expr.Name _ _, _, [_], 0⟩] _ _) _) _ _ _); k_dflt (refine LCt.ListComp_T (F₀ := by k_asm) (by rfl) (by decide) (by rfl) (by decide) (by rfl) ?_)))
  k_with "CompSrcT" => (refine stop9 ?_)
  k_with "S_laps" => ((intro Z1iXf; obtain ⟨Z1iXa, Z1iXj, Z1iXi, Z1iXh, Z1iXc, Z1iXd, Z1iXe⟩ := Z1iXf; subst Z1iXh; (obtain ⟨Z1iXb, Z1iXg⟩ := news_add (by k_asm) (by k_asm) (by k_asm) Z1iXc Z1iXd)))
  k_with "S_il" => (((rename News _ _ _ _ => Z1jXa); exact ⟨_, News.get Z1jXa (by k_mem), rfl, _, rfl⟩))
  trivial
theorem wr_keep {P : Params} {fw : Nat} {wr : List Nat → List Nat} {mk f0 f1 f2 : List Nat} (h : (fw, wr, mk, f0, f1, f2) ∈ wrT) : keepIn (hd.heap_1 P) (.ref fw) = true := by
  simp only [wrT, List.mem_cons, List.not_mem_nil, or_false, Prod.mk.injEq] at h
  rcases h with ⟨rfl, _⟩ | ⟨rfl, _⟩ | ⟨rfl, _⟩ | ⟨rfl, _⟩ | ⟨rfl, _⟩ <;> rfl
theorem wr_con {w : World} {p loose mean mg mb} {fw : Nat} {wr : List Nat → List Nat} {mk f0 f1 f2 : List Nat} (h : (fw, wr, mk, f0, f1, f2) ∈ wrT) (x : List Nat) (tw : Tok) (hx : x.length ≤ 9) :
    PCon 2 Challenge.pw_sc0056_02 w (hd.heap_1 w.params) p loose mean mg mb fw [.str (S x) tw] (fun _ _ v => ∃ t, v = .str (S (wr x)) t) := by
  simp only [wrT, List.mem_cons, List.not_mem_nil, or_false, Prod.mk.injEq] at h
  rcases h with ⟨rfl, rfl, _⟩ | ⟨rfl, rfl, _⟩ | ⟨rfl, rfl, _⟩ | ⟨rfl, rfl, _⟩ | ⟨rfl, rfl, _⟩
  · exact con_wr0 x tw hx
  · exact con_wr1 x tw hx
  · exact con_wr2 x tw hx
  · exact con_wr3 x tw hx
  · exact con_wr4 x tw hx
theorem wr_mk {fw : Nat} {wr : List Nat → List Nat} {mk f0 f1 f2 : List Nat} (h : (fw, wr, mk, f0, f1, f2) ∈ wrT) : f0.length ≤ 5 ∧ f1.length ≤ 5 ∧ f2.length ≤ 5 ∧ ∀ c ∈ mk, c = 38 ∨ c = 60 ∨ c = 62 ∨ c = 34 ∨ c = 13 ∨ c = 10 ∨ c = 9 := by
  simp only [wrT, List.mem_cons, List.not_mem_nil, or_false, Prod.mk.injEq] at h
  rcases h with ⟨_, _, rfl, rfl, rfl, rfl⟩ | ⟨_, _, rfl, rfl, rfl, rfl⟩ | ⟨_, _, rfl, rfl, rfl, rfl⟩ | ⟨_, _, rfl, rfl, rfl, rfl⟩ | ⟨_, _, rfl, rfl, rfl, rfl⟩ <;> decide
end
section
local macro_rules | `(tactic| walk_at "zz0") => `(tactic| fail)
local macro_rules | `(tactic| walk_at "zz1") => `(tactic| fail)
local macro_rules | `(tactic| walk_at "zz2") => `(tactic| fail)
example : True := by
  k_with "S_enterC0" => ((refine' code_defCG (news := []) ?Q1kXa ?Q1kXb ?Q1kXc ?Q1kXd ?Q1kXe ?Q1kXf ?Q1kXg ?Q1kXh ?Q1kXi ?Q1kXj ?Q1kXk ?Q1kXl ?Q1kXm ?Q1kXn ?_ ?Q1kXo ?Q1kXp ?Q1kXq; (case Q1kXf => exact rfl); (case Q1kXg => exact rfl); (case Q1kXh => assumption); (case Q1kXa => k_asm); (case Q1kXb => k_asm); (case Q1kXc => k_asm); (case Q1kXd => exact News.nil); (case Q1kXe => k_asm); (case Q1kXi => k_is); (case Q1kXj => k_is); (case Q1kXk => ktr_room); (case Q1kXl => exact BindsTo.of_eq rfl); (case Q1kXm => rfl); (case Q1kXn => decide); (case Q1kXo => exact rfl); (case Q1kXp => exact rfl); (case Q1kXq => exact rfl); k_whole; intro Z1kXj Z1kXd Z1kXk Z1kXo Z1kXi Z1kXc Z1kXb Z1kXe Z1kXh Z1kXa Z1kXg Z1kXf Z1kXm Z1kXl Z1kXn; (try dsimp only [List.map_nil, List.map_cons] at Z1kXl); (try k_lt Z1kXm); k_cells Z1kXh; (try simp only [List.cons_append, List.nil_append] at Z1kXe); (try dsimp only); (try k_lift Z1kXa); (try k_fold)))
  k_with "S_con" => (exact wr_con (by assumption) _ _ (by assumption))
  k_with "S_back" => ((intro Z1mXb; obtain ⟨Z1mXc, Z1mXa⟩ := Z1mXb; subst Z1mXa))
  k_with "exec Assign cons ListComp" => ((k_here; k_dflt (refine Assign_ListComp_ST (_F₀ := by k_asm) (by rfl) (by with_unfolding_all rfl) (by with_unfolding_all rfl) (by decide) (by rfl) (by decide) (by rfl) (by rfl) (by rfl) ?_)))
  k_with "callWith ref" => ((k_here; k_dflt (refine' callWith_K ?Q1oXa ?Q1oXb ?_; (case Q1oXa => k_asm); (case Q1oXb => assumption); k_whole)))
  k_with "compareOp NotIn str str" => ((k_here; k_dflt (refine r_notinF ?_ ?_) <;> intro Z1pXa))
  k_with "compareOp NotEq ref ref" => ((k_here; (with_reducible show wpAny _ _ (compareOp CmpOp.NotEq (Value.ref _) (Value.ref _)) _ _ _); k_dflt (refine' r_neNilC ?Q1qXa ?Q1qXb ?Q1qXc ?Q1qXd ?Q1qXe ?_ ?_; (case Q1qXa => walk_at "S_il"); (case Q1qXb => walk_at "S_il"); (case Q1qXc => assumption); (case Q1qXd => assumption); (case Q1qXe => ke_room)) <;> intro Z1qXa))
  trivial
theorem con_lown {w : World} {p loose mean mg mb} {fw : Nat} {wr : List Nat → List Nat} {mk f0 f1 f2 : List Nat} (hw : (fw, wr, mk, f0, f1, f2) ∈ wrT) (c d : Nat) (tc td : Tok) (hc1 : (wr [c]).length ≤ 20) (hc8 : ∀ b ∈ wr [c], b < 128) :
    PCon 8 Challenge.pw_sc0056_02 w (hd.heap_1 w.params) p loose mean mg mb 149 [.ref fw, .str (S [c]) tc, .str (S [d]) td] (fun _ _ v => ∃ t, v = .str (S (ownL (wr [c]) (wr [d]))) t) := by
  have q1 : [c].length ≤ 9 := by simp
  have q2 : [d].length ≤ 9 := by simp
  have hkw := wr_keep (P := w.params) hw
  dsimp only [PCon]
  intros
  rename_i hret
  refine wpAny_call ?_
  k_dflt (walk_at "S_enterC0")
  rename GSub _ _ _ => hG
  (try clear sfl)
  k_steps
  rename News _ _ _ _ => N1
  rename Fr _ _ _ _ => F1
  refine ⟨wr [c], _, _, rfl, rfl, F1, N1, by omega, fun s2 hs2 => ?_⟩
  obtain ⟨h9, rfl⟩ := hs2
  refine rest_indT (J := fun i ys news => CharsAre ys (ownA ((wr [c]).take i) (wr [d])) ∧ news = _) ?step ?fin _ 0 _ _ (Nat.zero_add _) ⟨.nil, rfl⟩
  case step =>
    clear N1 F1
    rintro i v ys news I oI C oC D m2 h2 tk2 E9 hi hP ⟨hJ, rfl⟩ hC2 hx F2 N2 off ne
    obtain ⟨b, u, hb, rfl⟩ := hP
    have hb' : (wr [c])[i]? = some b := by simpa [S] using hb
    dsimp only
    k_steps
    · rename ¬ b ∈ wr [d] => hin
      rename Fr _ _ _ _ => F5
      rename News _ _ _ _ => N5
      refine Stop9.go (CompEnd.intro F5 N5 _ ?s1 off trivial ⟨?_, rfl⟩)
      case s1 => (intro p hp; repeat first | exact hp | apply List.mem_cons_of_mem)
      rw [own_yes hb' hin]
      exact hJ.append (.cons _ u .nil)
    · rename b ∈ wr [d] => hin
      rename Fr _ _ _ _ => F5
      rename News _ _ _ _ => N5
      refine Stop9.go (CompEnd.intro F5 N5 _ ?s2 off trivial ⟨?_, rfl⟩)
      case s2 => (intro p hp; repeat first | exact hp | apply List.mem_cons_of_mem)
      rw [own_no hb' hin]
      exact hJ
  case fin =>
    rintro ys news ⟨hJ, rfl⟩
    clear N1 F1
    intro D5 h5 tk5 F5 N5 o5
    have h8 : ∀ b ∈ ownA ((wr [c]).take (wr [c]).length) (wr [d]), b < 128 := fun b hb => hc8 b (List.mem_of_mem_take (own_sub b hb))
    rw [List.take_length] at hJ h8
    dsimp only
    k_steps
    · rename ownA _ _ ≠ [] => hne
      obtain ⟨x1, r1, e1⟩ := List.exists_cons_of_ne_nil hne
      rw [e1] at hJ
      cases hJ with
      | cons _ t1 hJ =>
        k_steps
        refine hret _ _ _ (pc_kept hG (by assumption)) ⟨t1, ?_⟩
        unfold ownL
        rw [e1]
        rfl
    · rename ownA _ _ = [] => hne
      refine hret _ _ _ (pc_kept hG (by assumption)) ⟨tk5, ?_⟩
      unfold ownL
      rw [hne]
      rfl
end
section
example : True := by
  k_with_none
  w_top off
  k_with "olt" => (first | assumption | ((fail_if_success refine oM ?_); refine oL ?_; k_extra "ole") | k_extra "olh")
  k_with "olh" => (refine oH (by assumption) (by k_extra "ole"))
  k_with "ole" => (first | exact Nat.le_refl _ | assumption | exact oB | ((first | refine oA ?_ | refine oA2 ?_ | refine oA3 ?_); k_extra "ocl") | (refine oS ?_; k_extra "ole") | (refine Nat.le_of_lt ?_; (first | assumption | k_extra "olh")) | exact oE)
  k_with "olt2" => (first | k_extra "oas" | ((fail_if_success refine oM ?_); refine oL ?_; k_extra "ole2") | k_extra "olh2")
  k_with "olh2" => (refine oH (by k_extra "oas") (by k_extra "ole2"))
  k_with "ole2" => (first | exact Nat.le_refl _ | k_extra "oas" | exact oB | ((first | refine oA ?_ | refine oA2 ?_ | refine oA3 ?_); k_extra "ocl") | (refine oS ?_; k_extra "ole2") | (refine Nat.le_of_lt ?_; (first | k_extra "oas" | k_extra "olh2")) | exact oE)
  k_with "opu" => (first | exact oB | exact Nat.le_refl _ | (refine oS ?_; k_extra "opu"))
  k_with "olt0" => (refine oL ?_; k_extra "opu")
  k_with "one" => (first | (refine Nat.ne_of_gt ?_; (fail_if_success refine oM ?_); k_extra "olt0") | (refine Nat.ne_of_lt ?_; (fail_if_success refine oM ?_); k_extra "olt0") | exact Ne.symm (by assumption) | (refine Nat.ne_of_gt ?_; (fail_if_success refine oM ?_); k_extra "oas") | (refine Nat.ne_of_lt ?_; (fail_if_success refine oM ?_); k_extra "oas") | (refine Nat.ne_of_gt ?_; (fail_if_success refine oM ?_); k_extra "odd") | (refine Nat.ne_of_lt ?_; (fail_if_success refine oM ?_); k_extra "odd") | (refine Nat.ne_of_gt ?_; (fail_if_success refine oM ?_); k_extra "olt") | (refine Nat.ne_of_lt ?_; (fail_if_success refine oM ?_); k_extra "olt") | (refine Nat.ne_of_gt ?_; (fail_if_success refine oM ?_); k_extra "olt2") | (refine Nat.ne_of_lt ?_; (fail_if_success refine oM ?_); k_extra "olt2") | decide)
  k_with "ol1" => (first | ((fail_if_success refine oM ?_); first | k_extra "oas" | k_extra "olt0" | k_extra "odd" | k_extra "olt" | k_extra "olt2") | k_extra "ocl" | exact oT0 | exact oT5)
  k_with "oe1" => (first | ((fail_if_success refine oN ?_); first | k_extra "oas" | k_extra "opu" | k_extra "ole" | k_extra "ole2" | exact oE (by k_extra "oas")) | k_extra "ocl" | k_extra "olit" | k_extra "oas")
  k_with "olit" => (first | exact oT4 | exact oP | exact oP2 | exact oT1 | exact oT2 | exact oT3 | exact oQ5 | exact oQ1 | exact oQ2 | exact oQ3 | exact oQ4 | exact oQ6 | exact oD)
  k_with "ocl" => (with_unfolding_all exact Nat.le_of_ble_eq_true rfl)
  k_with "oas" => (first | assumption | exact oa1 | exact ob1 | exact oa2 | exact ob2 | exact oa3 | exact ob3 | exact oa4 | exact ob4 | exact oa5 | exact ob5 | exact oa6 | exact ob6 | exact oa7 | exact ob7)
  k_with "odd" => (first | exact oa1 ob7 | exact oa2 ob7 | exact oa3 ob7 | exact oa4 ob7 | exact oa5 ob7 | exact oa6 ob7 | exact oa7 ob7 | exact oa1 (ob7 ob7) | exact oa2 (ob7 ob7) | exact oa3 (ob7 ob7) | exact oa4 (ob7 ob7) | exact oa5 (ob7 ob7) | exact oa6 (ob7 ob7) | exact oa7 (ob7 ob7) | exact ob1 ob7 | exact ob2 ob7 | exact ob3 ob7 | exact ob4 ob7 | exact ob5 ob7 | exact ob6 ob7 | exact ob7 ob7)
  k_with "oin" => (first | decide | exact oI1 | exact oI3 | exact oI2 (by k_extra "oas"))
  k_with "om" => (with_reducible first | (first | assumption | ((fail_if_success fail_if_success refine oXn ?_); k_extra "one") | ((fail_if_success fail_if_success refine oXl ?_); k_extra "ol1") | ((fail_if_success fail_if_success refine oXe ?_); k_extra "oe1") | k_extra "oin") | fail)
  k_with "S_fit" => (first | omega | ((simp only [S_len, List.length_append, List.length_cons, List.length_nil, List.length_take, List.length_drop, dots, PySem.sizeLine_eq]); omega))
  k_with "call builtin:len" => (((with_reducible show wpAny _ _ (call (Value.builtin "len") [Value.str (S _) _]) _ _ _); refine r_len (by walk_at "S_fit") ?_))
  k_with "call builtin:str.startswith" => (((with_reducible show wpAny _ _ (call (Value.builtin "str.startswith") [Value.str (S _) _, Value.str (S _) _]) _ _ _); refine r_starts ?_))
  k_with "call builtin:str.endswith" => (((with_reducible show wpAny _ _ (call (Value.builtin "str.endswith") [Value.str (S _) _, Value.str (S _) _]) _ _ _); refine r_ends ?_))
  k_with "truthy str" => (((with_reducible show wpAny _ _ (truthy (Value.str (S _) _)) _ _ _); refine r_truthy (by walk_at "S_fit") ?_))
  k_with "exec For Name Name cons nil" => ((k_here; (rename Fr _ _ _ _ => Z6Xa); (with_unfolding_all refine' For_invVF Z6Xa ?Q6Xa ?Q6Xb ?_; (case Q6Xa => exact rfl); (case Q6Xb => exact rfl); k_whole)))
  k_with "pyIter ref" => (((with_reducible show wpAny _ _ (pyIter (Value.ref _)) (fun it s₂ => LoopAtV _ _ _ _ _ _ _ _ _ it s₂) _ _); k_listUnr))
  k_with "S_enter" => ((refine' code_defG (news := []) ?Q8Xa ?Q8Xb ?Q8Xc ?Q8Xd ?Q8Xe ?Q8Xf ?Q8Xg ?Q8Xh ?Q8Xi ?Q8Xj ?Q8Xk ?Q8Xl ?Q8Xm ?_ ?Q8Xn ?Q8Xo ?Q8Xp ?Q8Xq; (case Q8Xf => exact rfl); (case Q8Xg => exact rfl); (case Q8Xh => assumption); (case Q8Xa => k_asm); (case Q8Xb => k_asm); (case Q8Xc => k_asm); (case Q8Xd => exact News.nil); (case Q8Xe => k_asm); (case Q8Xi => k_is); (case Q8Xj => k_is); (case Q8Xk => ktr_room); (case Q8Xl => exact BindsTo.of_eq rfl); (case Q8Xq => decide); (case Q8Xm => exact locs rfl); (case Q8Xn => exact rfl); (case Q8Xo => exact rfl); (case Q8Xp => exact rfl); k_whole; intro Z8Xh Z8Xd Z8Xi Z8Xc Z8Xb Z8Xe Z8Xa Z8Xg Z8Xf Z8Xj; (try dsimp only [List.map_nil] at Z8Xj); (try dsimp only); (try k_lift Z8Xa); (try k_fold)))
  k_with "S_look" => (first | exact rfl | assumption | exact (if_pos rfl) | (refine (if_neg (by decide)).trans ?_; walk_at "S_look"))
  k_with "eval Name" => ((k_here; k_dflt (refine' nameX_L ?QaXa ?QaXb ?_ ?QaXc ?QaXd; (case QaXa => k_asm); (case QaXc => rfl); (case QaXd => rfl); (case QaXb => walk_at "S_look"); k_whole)))
  k_with "S_lit" => (first | (with_reducible exact lit_dots) | (with_reducible rfl))
  k_with "S_nn" => (first | omega | ((simp only [List.length_append, List.length_cons, List.length_nil, List.length_take, List.length_drop, dots] at *); omega))
  k_with "binaryOp Add str str" => (((with_reducible show wpAny _ _ (binaryOp _ (Value.str _ _) (Value.str _ _)) _ _ _); k_dflt (refine r_add (by walk_at "S_lit") (by walk_at "S_lit") (by walk_at "S_fit") ?_); intro _ _))
  k_with "subscriptTail Name Slice str ref" => (((with_reducible show wpAny _ _ (subscriptTail _ (Expr.Slice none (some _) none _) (Value.str (S _) _) _) _ _ _); (with_reducible rename Fr _ _ _ _ => ZeXa); (with_reducible rename News _ _ _ _ => ZeXb); (refine r_sliceTo (s := ⟨_, _, _, _, _⟩) ZeXa ZeXb (by walk_at "S_nn") (by walk_at "S_fit") ?_); intro _ _ _ _ _))
  k_with "subscriptTail Name Slice str ref" => (((with_reducible show wpAny _ _ (subscriptTail _ (Expr.Slice (some _) none none _) (Value.str (S _) _) _) _ _ _); (with_reducible rename Fr _ _ _ _ => ZfXa); (with_reducible rename News _ _ _ _ => ZfXb); (refine r_sliceFrom (s := ⟨_, _, _, _, _⟩) ZfXa ZfXb (by walk_at "S_nn") (by walk_at "S_fit") ?_); intro _ _ _ _ _))
  k_with "exec For Name Call cons nil" => ((k_here; (rename Fr _ _ _ _ => ZgXa); (with_unfolding_all refine' For_invVF ZgXa ?QgXa ?QgXb ?_; (case QgXa => exact rfl); (case QgXb => exact rfl); k_whole)))
  k_with "S_use" => ((refine' pcon_use ?QhXa ?QhXb ?QhXc ?QhXd ?QhXe ?QhXf ?QhXg ?QhXh ?_; (case QhXb => k_asm); (case QhXc => k_asm); (case QhXd => k_asm); (case QhXe => k_asm); (case QhXa => walk_at "S_con"); (case QhXf => first | exact rfl | assumption); (case QhXg => ktr_room); (case QhXh => ktr_units)))
  k_with "call ref" => ((k_here; k_dflt (walk_at "S_use"); intro ZiXf ZiXd ZiXe ZiXb; (have ZiXa := Fr.keeps (by k_asm) ZiXb); (have ZiXc := News.grown (by k_asm) ZiXb); walk_at "S_back" <;> ((try dsimp only); (try k_fold))))
  k_with "pyIter ref" => (k_extra "S_loop")
  k_with "S_bool" => ((intro ZkXa; (rcases bool_or ZkXa with ⟨R8, R7⟩ | ⟨R8, R7⟩) <;> subst R7))
  k_with "call builtin:list.append" => ((k_here; (with_reducible show wpAny _ _ (call (Value.builtin _) [Value.ref _, _]) _ _ _); k_dflt (refine' append_K ?QlXa ?QlXb ?QlXc ?_ ?QlXd; (case QlXa => k_asm); (case QlXb => k_asm); (case QlXc => k_upd); (case QlXd => exact size_ok (k := 100000) (by omega) (by decide)); k_whole); intro ZlXc ZlXa ZlXb; (try k_sweep)))
  k_with "m_k_room" => (ktr_room)
  k_with "m_k_units" => (ktr_units)
  k_with "S_enterM" => ((refine' code_defG ?QoXa ?QoXb ?QoXc ?QoXd ?QoXe ?QoXf ?QoXg ?QoXh ?QoXi ?QoXj ?QoXk ?QoXl ?QoXm ?_ ?QoXn ?QoXo ?QoXp ?QoXq; (case QoXf => exact rfl); (case QoXg => exact rfl); (case QoXh => assumption); (case QoXa => k_asm); (case QoXb => k_asm); (case QoXc => k_asm); (case QoXd => k_asm); (case QoXe => k_asm); (case QoXi => k_is); (case QoXj => k_is); (case QoXk => ktr_room); (case QoXl => exact BindsTo.of_eq rfl); (case QoXq => decide); (case QoXm => exact locs rfl); (case QoXn => exact rfl); (case QoXo => exact rfl); (case QoXp => exact rfl); k_whole; intro ZoXh ZoXd ZoXi ZoXc ZoXb ZoXe ZoXa ZoXg ZoXf ZoXj; (try dsimp only [List.map_nil, List.map_cons] at ZoXj); (try dsimp only); (try k_lift ZoXa); (try k_fold)))
  k_with "callWith" => (((with_reducible show wpAny _ _ (callWith _ (Prod.fst _) (Prod.snd _) _ _) _ _ _); dsimp only))
  k_with "S_int" => (first | omega | decide | ((simp only [List.length_cons, List.length_nil, decide_eq_true_eq, decide_eq_false_iff_not, beq_iff_eq, beq_eq_false_iff_ne, ne_eq, Int.not_lt, Int.not_le] at *); omega))
  k_with "binaryOp FloorDiv int int" => (((with_reducible show wpAny _ _ (binaryOp _ (Value.int _ _) (Value.int _ _)) _ _ _); k_dflt (refine r_fdiv (by walk_at "S_int") (by walk_at "S_int") ?_); intro _ _))
  k_with "binaryOp Mod int int" => (((with_reducible show wpAny _ _ (binaryOp _ (Value.int _ _) (Value.int _ _)) _ _ _); k_dflt (refine r_fmod (by walk_at "S_int") ?_); intro _ _))
  k_with "S_item" => (((with_reducible show wpAny _ _ (subscriptTail _ _ (Value.str (S _) _) (Value.int _ _)) _ _ _); k_dflt (refine r_item (by walk_at "S_int") (by walk_at "S_int") (by walk_at "S_fit") ?_); intro _ _))
  k_with "subscriptTail Name BinOp str int" => (walk_at "S_item")
  k_with "subscriptTail Name Constant str int" => (walk_at "S_item")
  k_with "subscriptTail Name Name str int" => (walk_at "S_item")
  k_with "S_lit" => (first | (with_reducible exact lit_dots) | (with_reducible exact lit_empty) | (with_reducible exact lit34) | (with_reducible exact lit9234) | (with_reducible exact lit92) | (with_reducible exact lit10) | (with_reducible exact lit38) | (with_reducible exact lit59) | (with_reducible rfl))
  k_with "call builtin:str.replace" => (((with_reducible show wpAny _ _ (call (Value.builtin _) [Value.str (S _) _, Value.str _ _, Value.str _ _]) _ _ _); k_dflt (refine r_replace (by walk_at "S_lit") (by walk_at "S_lit") (by decide) (Nat.succ_ne_zero _) (Nat.succ_ne_zero _) (Nat.ne_of_lt (Nat.lt_succ_self _)) (by decide) (by walk_at "S_nn") ?_); intro _ _))
  k_with "call builtin:str.join" => ((k_here; (with_reducible show wpAny _ _ (call (Value.builtin _) [Value.str _ _, Value.ref _]) _ _ _); k_dflt (refine r_join (by walk_at "S_lit") (by walk_at "S_isl") (by walk_at "S_strs") (by walk_at "S_sum") ?_); intro _ _))
  k_with "S_isl" => (first | assumption | exact ⟨LCg.lst _, News.get (by k_asm) (by k_mem), rfl, _, rfl⟩ | is_list)
  k_with "S_strs" => (first | exact StrsAre.nil | assumption | (exact CharsAre.strs (by assumption)))
  k_with "binaryOp Mult str int" => (((with_reducible show wpAny _ _ (binaryOp _ (Value.str (S _) _) (Value.int _ _)) _ _ _); k_dflt (refine r_mul (by walk_at "S_int") (by walk_at "S_int") (by walk_at "S_nn") ?_); intro _ _))
  k_with "S_enterC" => ((refine' code_defCG ?Q13Xa ?Q13Xb ?Q13Xc ?Q13Xd ?Q13Xe ?Q13Xf ?Q13Xg ?Q13Xh ?Q13Xi ?Q13Xj ?Q13Xk ?Q13Xl ?Q13Xm ?Q13Xn ?_ ?Q13Xo ?Q13Xp ?Q13Xq; (case Q13Xf => exact rfl); (case Q13Xg => exact rfl); (case Q13Xh => assumption); (case Q13Xa => k_asm); (case Q13Xb => k_asm); (case Q13Xc => k_asm); (case Q13Xd => k_asm); (case Q13Xe => k_asm); (case Q13Xi => k_is); (case Q13Xj => k_is); (case Q13Xk => ktr_room); (case Q13Xl => exact BindsTo.of_eq rfl); (case Q13Xm => rfl); (case Q13Xn => decide); (case Q13Xo => exact rfl); (case Q13Xp => exact rfl); (case Q13Xq => exact rfl); k_whole; intro Z13Xj Z13Xd Z13Xk Z13Xo Z13Xi Z13Xc Z13Xb Z13Xe Z13Xh Z13Xa Z13Xg Z13Xf Z13Xm Z13Xl Z13Xn; (try dsimp only [List.map_nil, List.map_cons] at Z13Xl); (try k_lt Z13Xm); k_cells Z13Xh; (try simp only [List.cons_append, List.nil_append] at Z13Xe); (try dsimp only); (try k_lift Z13Xa); (try k_fold)))
  k_with "S_lcs" => ((k_here; k_dflt (refine ListComp_S (_F₀ := by k_asm) (by rfl) (by decide) (by rfl) (by decide) (by rfl) ?_)))
  k_with "S_lit" => (first | (with_reducible exact lit_dots) | (with_reducible exact lit_empty) | (with_reducible exact lit34) | (with_reducible exact lit9234) | (with_reducible exact lit92) | (with_reducible exact lit10) | (with_reducible exact lit38) | (with_reducible exact lit59) | (with_reducible exact lit60) | (with_reducible exact lit62) | (with_reducible exact lit13) | (with_reducible exact lit9) | (with_reducible exact litamp) | (with_reducible exact litlt) | (with_reducible exact litgt) | (with_reducible exact litquot) | (with_reducible rfl))
  k_with "S_sum" => (assumption)
  k_with "eval ListComp" => ((k_here; (with_reducible show wpAny _ _ (eval (PySem.Expr.ListComp _ [⟨PySem.Expr.Tuple _ _ _, _, [], 0⟩] _ _) _) _ _ _); k_dflt (refine ListComp_E (_F₀ := by k_asm) (by rfl) (by decide) (by rfl) (by decide) (by rfl) (by rfl) (by decide) ?_)))
  k_with "eval ListComp" => ((k_here; (with_reducible show wpAny _ _ (eval (PySem.Expr.ListComp _ [⟨PySem.Expr.Name _ _, _, [], 0⟩] _ _) _) _ _ _); k_dflt (refine LCg.ListComp_U (F₀ := by k_asm) (by rfl) (by decide) (by rfl) (by decide) (by rfl) ?_)))
  k_with "call type:enumerate" => (refine stop9 ?_)
  k_with "exec Assign cons ListComp" => ((k_here; k_dflt (refine wpAny_Assign_Name ?_ (by rfl))))
  k_with "CompSrc" => (refine stop9 ?_)
  k_with "CompEnd" => (refine stop9 ?_)
  k_with "FinE" => (((unfold LCg.FinE); intro Z1dXa Z1dXd Z1dXf Z1dXb Z1dXc Z1dXe; (try simp only [List.nil_append, List.cons_append] at Z1dXc); (try dsimp only)))
  k_with "FinA" => (((unfold LCg.FinA); intro Z1eXa Z1eXd Z1eXf Z1eXb Z1eXc Z1eXe; (try simp only [List.nil_append, List.cons_append] at Z1eXc); (try dsimp only)))
  k_with "m_k_ne" => (first | (refine neN ?_; (try dsimp only); omega) | exact off1_ne (by assumption) (by k_mem) | exact Ne.symm (off1_ne (by assumption) (by k_mem)))
  k_with "eval ListComp" => ((k_here; (with_reducible show wpAny _ _ (eval (PySem.Expr.ListComp _ [⟨PySem.Expr.Name _ _, _, [_], 0⟩] _ _) _) _ _ _); k_dflt (refine LCt.ListComp_T (F₀ := by k_asm) (by rfl) (by decide) (by rfl) (by decide) (by rfl) ?_)))
  k_with "CompSrcT" => (refine stop9 ?_)
  k_with "S_laps" => ((intro Z1iXf; obtain ⟨Z1iXa, Z1iXj, Z1iXi, Z1iXh, Z1iXc, Z1iXd, Z1iXe⟩ := Z1iXf; subst Z1iXh; (obtain ⟨Z1iXb, Z1iXg⟩ := news_add (by k_asm) (by k_asm) (by k_asm) Z1iXc Z1iXd)))
  k_with "S_il" => (((rename News _ _ _ _ => Z1jXa); exact ⟨_, News.get Z1jXa (by k_mem), rfl, _, rfl⟩))
  k_with "execs cons" => (((have _sf : StopH := by assumption); clear _sf; refine stop9 ?_))
  trivial
theorem main1 {w : World} {p loose mean mg mb} {dp un : Nat} {gd : Option (List Code)} {L fa : Addr} {ccd : Value} {outer : List Env} {A₀ : Around} {base g : Heap} {m : PySem.Str → Option Value} {s : Shared} {Q : Flow → Shared → Prop} {E : Value → Shared → Prop} (Dh : Addr) (n_heaps : m (PySem.Str.ofString "heaps") = some (.ref Dh)) 
    (hB : Below A₀ base outer g) (hF : Fr g L s.heap m) (hX : (hd.heap_1 w.params).In g) (hT : Top p loose mean mg mb g) (hr : dp + 30 < recursionLimit) (hu : un + 16 * 30 < cLine) (hC : CodeHd base 109 107) (news : List (Addr × Obj)) (hN : News g L s.heap news)
    (next : ∀ (h' : Heap) (tk' : Nat) (m' : PySem.Str → Option Value) (tr : Tok), m' (PySem.Str.ofString "ring") = some (.str (S ring8) tr) → m' (PySem.Str.ofString "heaps") = some (.ref Dh) → Fr g L h' m' → News g L h' news →
      wpAny (model Challenge.pw_sc0056_02 w) (lawA dp un gd L fa ccd outer) (execs (lawBody.drop 2) (lawEnv L fa ccd)) Q E { s with heap := h', toks := tk' }) :
    wpAny (model Challenge.pw_sc0056_02 w) (lawA dp un gd L fa ccd outer) (execs (lawBody.drop 1) (lawEnv L fa ccd)) Q E s := by
  obtain ⟨hp, gns, dr, tk, os⟩ := s
  conv in (List.drop _ lawBody) => whnf
  (try clear sfl)
  walk1
  ((try clear sfl); have sfl : StopH := trivial)
  k_steps
  refine Stop9.go ?_
  rename Fr _ _ _ _ => F6
  rename News _ _ _ _ => N6
  exact next _ _ _ _ (by rw [← lit_ring8]; rfl) (by exact n_heaps) F6 N6
end
section
local macro_rules | `(tactic| walk_at "zz0") => `(tactic| fail)
local macro_rules | `(tactic| walk_at "zz1") => `(tactic| fail)
local macro_rules | `(tactic| walk_at "zz2") => `(tactic| fail)
example : True := by
  k_with "m_k_all" => (assumption)
  trivial
theorem main2 {w : World} {p loose mean mg mb} {dp un : Nat} {gd : Option (List Code)} {L fa : Addr} {ccd : Value} {outer : List Env} {A₀ : Around} {base g : Heap} {m : PySem.Str → Option Value} {s : Shared} {Q : Flow → Shared → Prop} {E : Value → Shared → Prop} (o2 : Obj) (tl : List (Addr × Obj)) (htl : ∀ p ∈ tl, p.1 ≠ L + 1 + 1) (Dh : Addr) (a0 a1 a2 : Int) (t0 t1 t2 : Tok) (q0 : 0 ≤ a0) (q1 : 0 ≤ a1) (q2 : 0 ≤ a2) (d2 : o2.data = .cell (none)) (tr : Tok) (n_ring : m (PySem.Str.ofString "ring") = some (.str (S ring8) tr)) (n_heaps : m (PySem.Str.ofString "heaps") = some (.ref Dh)) 
    (lh : @LT.lt Nat _ (L + 1 + 1) Dh) (hB : Below A₀ base outer g) (hF : Fr g L s.heap m) (hX : (hd.heap_1 w.params).In g) (hT : Top p loose mean mg mb g) (hr : dp + 30 < recursionLimit) (hu : un + 16 * 30 < cLine) (hC : CodeHd base 109 107) (hN : News g L s.heap ((Dh, listOf [.int a0 t0, .int a1 t1, .int a2 t2].toArray 3) :: (L + 1 + 1, o2) :: tl))
    (next : ∀ (h' : Heap) (tk' : Nat) (o' : Obj) (t' : Tok), o'.data = .cell (some (.str (S [ring8.getD (a0 % 8).toNat 0]) t')) → Fr g L h' m → News g L h' ((Dh, listOf [.int a0 t0, .int a1 t1, .int a2 t2].toArray 3) :: (L + 1 + 1, o') :: tl) →
      wpAny (model Challenge.pw_sc0056_02 w) (lawA dp un gd L fa ccd outer) (execs (lawBody.drop 3) (lawEnv L fa ccd)) Q E { s with heap := h', toks := tk' }) :
    wpAny (model Challenge.pw_sc0056_02 w) (lawA dp un gd L fa ccd outer) (execs (lawBody.drop 2) (lawEnv L fa ccd)) Q E s := by
  have hrl : ring8.length = 8 := rfl
  obtain ⟨hp, gns, dr, tk, os⟩ := s
  conv in (List.drop _ lawBody) => whnf
  (try clear sfl)
  walk1
  ((try clear sfl); have sfl : StopH := trivial)
  k_steps
  refine Stop9.go ?_
  rename Fr _ _ _ _ => F6
  rename News _ _ _ _ => N6
  rename _ = Data.cell (some (Value.str (S _) _)) => dn
  exact next _ _ _ _ dn F6 N6
end
section
theorem main3 {w : World} {p loose mean mg mb} {dp un : Nat} {gd : Option (List Code)} {L fa : Addr} {ccd : Value} {outer : List Env} {A₀ : Around} {base g : Heap} {m : PySem.Str → Option Value} {s : Shared} {Q : Flow → Shared → Prop} {E : Value → Shared → Prop} (o3 : Obj) (tl : List (Addr × Obj)) (htl : ∀ p ∈ tl, p.1 ≠ L + 1 + 1 + 1) (Dh : Addr) (a0 a1 a2 : Int) (t0 t1 t2 : Tok) (q0 : 0 ≤ a0) (q1 : 0 ≤ a1) (q2 : 0 ≤ a2) (d3 : o3.data = .cell (none)) (tr : Tok) (n_ring : m (PySem.Str.ofString "ring") = some (.str (S ring8) tr)) (n_heaps : m (PySem.Str.ofString "heaps") = some (.ref Dh)) 
    (lh : @LT.lt Nat _ (L + 1 + 1 + 1) Dh) (hB : Below A₀ base outer g) (hF : Fr g L s.heap m) (hX : (hd.heap_1 w.params).In g) (hT : Top p loose mean mg mb g) (hr : dp + 30 < recursionLimit) (hu : un + 16 * 30 < cLine) (hC : CodeHd base 109 107) (hN : News g L s.heap ((Dh, listOf [.int a0 t0, .int a1 t1, .int a2 t2].toArray 3) :: (L + 1 + 1 + 1, o3) :: tl))
    (next : ∀ (h' : Heap) (tk' : Nat) (o' : Obj) (t' : Tok), o'.data = .cell (some (.str (S [ring8.getD ((a0 % 8 + 1 + a0 / 8 % 7) % 8).toNat 0]) t')) → Fr g L h' m → News g L h' ((Dh, listOf [.int a0 t0, .int a1 t1, .int a2 t2].toArray 3) :: (L + 1 + 1 + 1, o') :: tl) →
      wpAny (model Challenge.pw_sc0056_02 w) (lawA dp un gd L fa ccd outer) (execs (lawBody.drop 4) (lawEnv L fa ccd)) Q E { s with heap := h', toks := tk' }) :
    wpAny (model Challenge.pw_sc0056_02 w) (lawA dp un gd L fa ccd outer) (execs (lawBody.drop 3) (lawEnv L fa ccd)) Q E s := by
  have hrl : ring8.length = 8 := rfl
  obtain ⟨hp, gns, dr, tk, os⟩ := s
  conv in (List.drop _ lawBody) => whnf
  (try clear sfl)
  walk1
  ((try clear sfl); have sfl : StopH := trivial)
  k_steps
  refine Stop9.go ?_
  rename Fr _ _ _ _ => F6
  rename News _ _ _ _ => N6
  rename _ = Data.cell (some (Value.str (S _) _)) => dn
  exact next _ _ _ _ dn F6 N6
end
section
local macro_rules | `(tactic| walk_at "zz0") => `(tactic| fail)
local macro_rules | `(tactic| walk_at "zz1") => `(tactic| fail)
local macro_rules | `(tactic| walk_at "zz2") => `(tactic| fail)
theorem main4 {w : World} {p loose mean mg mb} {dp un : Nat} {gd : Option (List Code)} {L fa : Addr} {ccd : Value} {outer : List Env} {A₀ : Around} {base g : Heap} {m : PySem.Str → Option Value} {s : Shared} {Q : Flow → Shared → Prop} {E : Value → Shared → Prop} (o1 o2 o3 o4 o5 o6 o7 o8 : Obj) (Dh : Addr) (a0 a1 a2 : Int) (t0 t1 t2 : Tok) (q0 : 0 ≤ a0) (q1 : 0 ≤ a1) (q2 : 0 ≤ a2) (d4 : o4.data = .cell (none)) (d5 : o5.data = .cell (none)) (d6 : o6.data = .cell (none)) (n_heaps : m (PySem.Str.ofString "heaps") = some (.ref Dh))  (lh : @LT.lt Nat _ (L + 1 + 1 + 1 + 1 + 1 + 1 + 1 + 1) Dh) (h7 : @LT.lt Nat _ 107 L)
    (hB : Below A₀ base outer g) (hF : Fr g L s.heap m) (hX : (hd.heap_1 w.params).In g) (hT : Top p loose mean mg mb g) (hr : dp + 30 < recursionLimit) (hu : un + 16 * 30 < cLine) (hC : CodeHd base 109 107) (hN : News g L s.heap [(Dh, listOf [.int a0 t0, .int a1 t1, .int a2 t2].toArray 3), (L + 1 + 1 + 1 + 1 + 1 + 1 + 1 + 1, o8), (L + 1 + 1 + 1 + 1 + 1 + 1 + 1, o7), (L + 1 + 1 + 1 + 1 + 1 + 1, o6), (L + 1 + 1 + 1 + 1 + 1, o5), (L + 1 + 1 + 1 + 1, o4), (L + 1 + 1 + 1, o3), (L + 1 + 1, o2), (L + 1, o1), (107, tabObj #[])])
    (next : ∀ (h' : Heap) (tk' : Nat) (o4' o5' o6' : Obj) (G : Addr) (fw : Nat) (wr : List Nat → List Nat) (mk f0 f1 f2 : List Nat) (tm u0 u1 u2 : Tok), (fw, wr, mk, f0, f1, f2) ∈ wrT → o4'.data = .cell (some (.ref fw)) → o5'.data = .cell (some (.str (S mk) tm)) → o6'.data = .cell (some (.ref G)) → @LT.lt Nat _ Dh G →
      Fr g L h' m → News g L h' [(G, tupObj [.str (S f0) u0, .str (S f1) u1, .str (S f2) u2]), (Dh, listOf [.int a0 t0, .int a1 t1, .int a2 t2].toArray 3), (L + 1 + 1 + 1 + 1 + 1 + 1 + 1 + 1, o8), (L + 1 + 1 + 1 + 1 + 1 + 1 + 1, o7), (L + 1 + 1 + 1 + 1 + 1 + 1, o6'), (L + 1 + 1 + 1 + 1 + 1, o5'), (L + 1 + 1 + 1 + 1, o4'), (L + 1 + 1 + 1, o3), (L + 1 + 1, o2), (L + 1, o1), (107, tabObj #[])] →
      wpAny (model Challenge.pw_sc0056_02 w) (lawA dp un gd L fa ccd outer) (execs (lawBody.drop 5) (lawEnv L fa ccd)) Q E { s with heap := h', toks := tk' }) :
    wpAny (model Challenge.pw_sc0056_02 w) (lawA dp un gd L fa ccd outer) (execs (lawBody.drop 4) (lawEnv L fa ccd)) Q E s := by
  obtain ⟨hp, gns, dr, tk, os⟩ := s
  conv in (List.drop _ lawBody) => whnf
  (try clear sfl)
  walk1
  ((try clear sfl); have sfl : StopH := trivial)
  k_steps
  · refine Stop9.go ?_
    rename Fr _ _ _ _ => F6
    rename News _ _ _ _ => N6
    refine next _ _ _ _ _ _ 77 wr0 [38, 60, 62] [] [] [] _ ?ua0 ?ub0 ?uc0 (List.Mem.head _) (by assumption) (by assumption) (by assumption) ?lt0 F6 (news_sub N6 ?sub0)
    case sub0 => lcg_sub
    case lt0 => omega
  · refine Stop9.go ?_
    rename Fr _ _ _ _ => F6
    rename News _ _ _ _ => N6
    refine next _ _ _ _ _ _ 84 wr1 [38, 60, 62, 34, 13, 10, 9] [35, 49, 51] [35, 49, 48] [35, 48, 57] _ ?ua1 ?ub1 ?uc1 (List.Mem.tail _ (List.Mem.head _)) (by assumption) (by assumption) (by assumption) ?lt1 F6 (news_sub N6 ?sub1)
    case sub1 => lcg_sub
    case lt1 => omega
  · refine Stop9.go ?_
    rename Fr _ _ _ _ => F6
    rename News _ _ _ _ => N6
    refine next _ _ _ _ _ _ 91 wr2 [38, 62, 34] [] [] [] _ ?ua2 ?ub2 ?uc2 (List.Mem.tail _ (List.Mem.tail _ (List.Mem.head _))) (by assumption) (by assumption) (by assumption) ?lt2 F6 (news_sub N6 ?sub2)
    case sub2 => lcg_sub
    case lt2 => omega
  · refine Stop9.go ?_
    rename Fr _ _ _ _ => F6
    rename News _ _ _ _ => N6
    refine next _ _ _ _ _ _ 98 wr3 [38, 60, 62, 13] [35, 120, 68] [] [] _ ?ua3 ?ub3 ?uc3 (List.Mem.tail _ (List.Mem.tail _ (List.Mem.tail _ (List.Mem.head _)))) (by assumption) (by assumption) (by assumption) ?lt3 F6 (news_sub N6 ?sub3)
    case sub3 => lcg_sub
    case lt3 => omega
  · refine Stop9.go ?_
    rename Fr _ _ _ _ => F6
    rename News _ _ _ _ => N6
    refine next _ _ _ _ _ _ 105 wr4 [38, 60, 34, 13, 10, 9] [35, 120, 68] [35, 120, 65] [35, 120, 57] _ ?ua4 ?ub4 ?uc4 (List.Mem.tail _ (List.Mem.tail _ (List.Mem.tail _ (List.Mem.tail _ (List.Mem.head _))))) (by assumption) (by assumption) (by assumption) ?lt4 F6 (news_sub N6 ?sub4)
    case sub4 => lcg_sub
    case lt4 => omega
end
section
theorem main5 {w : World} {p loose mean mg mb} {dp un : Nat} {gd : Option (List Code)} {L fa : Addr} {ccd : Value} {outer : List Env} {A₀ : Around} {base g : Heap} {m : PySem.Str → Option Value} {s : Shared} {Q : Flow → Shared → Prop} {E : Value → Shared → Prop} (o7 : Obj) (tl : List (Addr × Obj)) (htl : ∀ p ∈ tl, p.1 ≠ L + 1 + 1 + 1 + 1 + 1 + 1 + 1) (Dh : Addr) (a0 a1 a2 : Int) (t0 t1 t2 : Tok) (q0 : 0 ≤ a0) (q1 : 0 ≤ a1) (q2 : 0 ≤ a2) (d7 : o7.data = .cell (none)) (n_heaps : m (PySem.Str.ofString "heaps") = some (.ref Dh))  (lh : @LT.lt Nat _ (L + 1 + 1 + 1 + 1 + 1 + 1 + 1) Dh)
    (hB : Below A₀ base outer g) (hF : Fr g L s.heap m) (hX : (hd.heap_1 w.params).In g) (hT : Top p loose mean mg mb g) (hr : dp + 30 < recursionLimit) (hu : un + 16 * 30 < cLine) (hC : CodeHd base 109 107) (hN : News g L s.heap ((Dh, listOf [.int a0 t0, .int a1 t1, .int a2 t2].toArray 3) :: (L + 1 + 1 + 1 + 1 + 1 + 1 + 1, o7) :: tl))
    (next : ∀ (h' : Heap) (tk' : Nat) (o' : Obj) (z : Int) (t' : Tok), 3 ≤ z → z ≤ 5 → o'.data = .cell (some (.int z t')) → Fr g L h' m → News g L h' ((Dh, listOf [.int a0 t0, .int a1 t1, .int a2 t2].toArray 3) :: (L + 1 + 1 + 1 + 1 + 1 + 1 + 1, o') :: tl) →
      wpAny (model Challenge.pw_sc0056_02 w) (lawA dp un gd L fa ccd outer) (execs (lawBody.drop 6) (lawEnv L fa ccd)) Q E { s with heap := h', toks := tk' }) :
    wpAny (model Challenge.pw_sc0056_02 w) (lawA dp un gd L fa ccd outer) (execs (lawBody.drop 5) (lawEnv L fa ccd)) Q E s := by
  obtain ⟨hp, gns, dr, tk, os⟩ := s
  conv in (List.drop _ lawBody) => whnf
  (try clear sfl)
  walk1
  ((try clear sfl); have sfl : StopH := trivial)
  k_steps
  refine Stop9.go ?_
  rename Fr _ _ _ _ => F6
  rename News _ _ _ _ => N6
  rename _ = Data.cell (some (Value.int _ _)) => dn
  exact next _ _ _ _ _ (by omega) (by omega) dn F6 N6
end
section
local macro_rules | `(tactic| walk_at "zz0") => `(tactic| fail)
local macro_rules | `(tactic| walk_at "zz1") => `(tactic| fail)
local macro_rules | `(tactic| walk_at "zz2") => `(tactic| fail)
example : True := by
  k_with "exec Assign cons ListComp" => ((k_here; k_dflt (refine Assign_ListComp_C (_F₀ := by k_asm) (by rfl) (by with_unfolding_all rfl) (by with_unfolding_all rfl) (by rfl) (by decide) (by (intro _; rfl)) (by (intro _; rfl)) (by rfl) (by rfl) (by rfl) ?_)))
  trivial
theorem main6 {w : World} {p loose mean mg mb} {dp un : Nat} {gd : Option (List Code)} {L fa : Addr} {ccd : Value} {outer : List Env} {A₀ : Around} {base g : Heap} {m : PySem.Str → Option Value} {s : Shared} {Q : Flow → Shared → Prop} {E : Value → Shared → Prop} (o2 o3 o7 : Obj) (tl : List (Addr × Obj)) (Dh : Addr) (a0 a1 a2 : Int) (t0 t1 t2 : Tok) (q0 : 0 ≤ a0) (q1 : 0 ≤ a1) (q2 : 0 ≤ a2) (la lb : Nat) (ta tb : Tok) (d2 : o2.data = .cell (some (.str (S [la]) ta))) (d3 : o3.data = .cell (some (.str (S [lb]) tb))) (n : Nat) (hn3 : 3 ≤ n) (hn5 : n ≤ 5) (tz : Tok) (d7 : o7.data = .cell (some (.int ((n : Nat) : Int) tz))) (n_heaps : m (PySem.Str.ofString "heaps") = some (.ref Dh)) 
    (hB : Below A₀ base outer g) (hF : Fr g L s.heap m) (hX : (hd.heap_1 w.params).In g) (hT : Top p loose mean mg mb g) (hr : dp + 30 < recursionLimit) (hu : un + 16 * 30 < cLine) (hC : CodeHd base 109 107) (hN : News g L s.heap ((Dh, listOf [.int a0 t0, .int a1 t1, .int a2 t2].toArray 3) :: (L + 1 + 1 + 1 + 1 + 1 + 1 + 1, o7) :: (L + 1 + 1 + 1, o3) :: (L + 1 + 1, o2) :: tl))
    (next : ∀ (h' : Heap) (tk' : Nat) (m' : PySem.Str → Option Value) (Dd : Addr) (kd : Nat) (x0 x1 : List Nat) (v0 v1 : Tok), x0.length = n → x1.length = n → (∀ c ∈ x0, c = la ∨ c = lb) → (∀ c ∈ x1, c = la ∨ c = lb) → (∀ p ∈ tl, @LT.lt Nat _ p.1 Dd) → m' = (fun y => if y = (PySem.Str.ofString "drawn") then some (.ref Dd) else m y) → Fr g L h' m' → News g L h' ((Dd, listOf [.str (S x0) v0, .str (S x1) v1].toArray kd) :: (L + 1 + 1 + 1 + 1 + 1 + 1 + 1, o7) :: (L + 1 + 1 + 1, o3) :: (L + 1 + 1, o2) :: tl) →
      wpAny (model Challenge.pw_sc0056_02 w) (lawA dp un gd L fa ccd outer) (execs (lawBody.drop 7) (lawEnv L fa ccd)) Q E { s with heap := h', toks := tk' }) :
    wpAny (model Challenge.pw_sc0056_02 w) (lawA dp un gd L fa ccd outer) (execs (lawBody.drop 6) (lawEnv L fa ccd)) Q E s := by
  obtain ⟨hp, gns, dr, tk, os⟩ := s
  conv in (List.drop _ lawBody) => whnf
  (try clear sfl)
  walk1
  ((try clear sfl); have sfl : StopH := trivial)
  k_steps
  rename Fr _ _ _ _ => F1
  rename News _ _ _ _ => N1
  refine ⟨_, _, _, fun i ys => ∃ xs, StrsAre ys xs ∧ xs.length = i ∧ ∀ x ∈ xs, x.length = n ∧ ∀ c ∈ x, c = la ∨ c = lb, rfl, rfl, F1, N1, .head _, by simp, ⟨[], .nil, rfl, by simp⟩, ?step, ?fin⟩
  case step =>
    clear N1 F1
    rintro i v ys I oI C oC D c oc h tk E' hi hv ⟨xs, hJ1, hJ2, hJ3⟩ doc F2 N2
    have hvi : ∃ a tv, v = .int a tv ∧ 0 ≤ a := by
      have hi' : i < 2 := hi
      rcases i with _ | _ | i
      · cases hv; exact ⟨_, _, rfl, by show (0 : Int) ≤ a1 / 3; omega⟩
      · cases hv; exact ⟨_, _, rfl, by show (0 : Int) ≤ a2; omega⟩
      · omega
    obtain ⟨a, tv, rfl, ha⟩ := hvi
    clear hv
    dsimp only
    k_steps
    refine Stop9.go ?_
    rename Fr _ _ _ _ => F3
    rename News _ _ _ _ => N3
    rename IsRange _ _ _ _ _ _ _ _ => hR9
    k_dflt (refine CompSrc.range (n := n) rfl F3 N3 hR9 (small_le (by omega) (by omega) (by omega) (by omega)) (by rw [rangeSize_nat]; omega) (by rw [PySem.sizeLine_eq]; omega) fun g' => ?_)
    refine rest_ind (J := fun i ys news => (∃ bs, CharsAre ys bs ∧ bs.length = i ∧ ∀ c ∈ bs, c = la ∨ c = lb) ∧ news = _) ?step2 ?fin2 _ 0 _ _ (Nat.zero_add _) ⟨⟨[], .nil, rfl, by simp⟩, rfl⟩
    case step2 =>
      clear N3 F3 hR9
      rintro i2 v2 ys2 news2 I2 oI2 C2 oC2 D2 m3 h3 tk3 E3 hi2 ⟨tv2, rfl⟩ ⟨⟨bs, hK1, hK2, hK3⟩, rfl⟩ hC3 hx3 F4 N4 off4 ne4
      dsimp only
      k_steps
      · rename Fr _ _ _ _ => F5
        rename News _ _ _ _ => N5
        refine Stop9.go (CompEnd.intro F5 N5 _ ?s1 off4 trivial ⟨⟨bs ++ [lb], hK1.append (.cons _ _ .nil), by simp [hK2], two_snoc hK3 (.inr rfl)⟩, rfl⟩)
        case s1 => (intro p hp; repeat first | exact hp | apply List.mem_cons_of_mem)
      · rename Fr _ _ _ _ => F5
        rename News _ _ _ _ => N5
        refine Stop9.go (CompEnd.intro F5 N5 _ ?s2 off4 trivial ⟨⟨bs ++ [la], hK1.append (.cons _ _ .nil), by simp [hK2], two_snoc hK3 (.inl rfl)⟩, rfl⟩)
        case s2 => (intro p hp; repeat first | exact hp | apply List.mem_cons_of_mem)
    case fin2 =>
      clear N3 F3 hR9
      rintro ys2 news2 ⟨⟨bs, hK1, hK2, hK3⟩, rfl⟩
      have hsum : ((bs.map fun c => [c]).map (·.length)).sum + (bs.map fun c => [c]).length ≤ 1000000 := by
        rw [chars_sum, List.length_map]; omega
      dsimp only
      k_steps
      rename Fr _ _ _ _ => F5
      rename News _ _ _ _ => N5
      refine ⟨_, _, rfl, F5, news_sub N5 ?s3, xs ++ [bs], ?j1, by simp [hJ2], ?j2⟩
      case s3 => (intro p hp; repeat first | exact hp | apply List.mem_cons_of_mem)
      case j1 =>
        rw [chars_flat]
        exact hJ1.append (.cons _ _ .nil)
      case j2 =>
        intro x hx
        rcases List.mem_append.mp hx with hx | hx
        · exact hJ3 x hx
        · rw [List.mem_singleton.mp hx]
          exact ⟨hK2, hK3⟩
  case fin =>
    clear N1 F1
    rintro ys ⟨xs, hJ1, hJ2, hJ3⟩
    intro Dd h5 tk5 F5 N5 lt5
    have ltl : ∀ p ∈ tl, @LT.lt Nat _ p.1 Dd := fun p hp => lt5 p (by repeat first | exact hp | apply List.mem_cons_of_mem)
    obtain ⟨x0, x1, rfl⟩ : ∃ a b, xs = [a, b] := by
      rcases xs with _ | ⟨a, _ | ⟨b, _ | ⟨c, r⟩⟩⟩
      · simp at hJ2
      · simp at hJ2
      · exact ⟨a, b, rfl⟩
      · simp at hJ2
    obtain ⟨v0, v1, rfl⟩ := strs2 hJ1
    obtain ⟨e1, g1⟩ := hJ3 x0 (by simp)
    obtain ⟨e2, g2⟩ := hJ3 x1 (by simp)
    clear lt5
    dsimp only
    k_steps
    refine Stop9.go ?_
    rename Fr _ _ _ _ => F6
    rename News _ _ _ _ => N6
    refine next _ _ _ _ _ x0 x1 v0 v1 e1 e2 g1 g2 ltl rfl F6 (news_sub N6 (by (intro p hp; (repeat (rcases List.mem_cons.mp hp with rfl | hp; · k_mem)); repeat first | exact hp | apply List.mem_cons_of_mem)))
end
section
example : True := by
  k_with "subscriptTail Name Slice ref ref" => ((k_here; (with_reducible show wpAny _ _ (subscriptTail _ (PySem.Expr.Slice (some _) (some _) (some _) _) (Value.ref _) (Value.ref _)) _ _ _); k_dflt (refine' r_sliceInts ?Q1nXa ?Q1nXb ?Q1nXc ?Q1nXd ?Q1nXe ?Q1nXf ?Q1nXg ?Q1nXh ?_ ?Q1nXi ?Q1nXj ?Q1nXk; (case Q1nXa => k_asm); (case Q1nXb => k_asm); (case Q1nXc => assumption); (case Q1nXd => exact IsPart.int _ _); (case Q1nXe => exact IsPart.int _ _); (case Q1nXf => exact IsPart.int _ _); (case Q1nXg => decide); (case Q1nXh => assumption); (case Q1nXi => with_unfolding_all rfl); (case Q1nXj => (intro _; with_unfolding_all rfl)); (case Q1nXk => omega)); intro Z1nXa Z1nXh Z1nXg Z1nXd Z1nXb Z1nXc Z1nXf Z1nXe; (try k_lt Z1nXf)))
  k_with "call builtin:sum" => ((k_here; (with_reducible show wpAny _ _ (call (Value.builtin "sum") [Value.ref _]) _ _ _); k_dflt (refine' PyProof.Rows.sum_ints ?Q1oXa ?Q1oXb ?Q1oXc ?Q1oXd ?Q1oXe ?_; (case Q1oXa => k_asm); (case Q1oXb => k_asm); (case Q1oXc => rfl); (case Q1oXd => walk_at "S_isl"); (case Q1oXe => assumption)); intro Z1oXc Z1oXe Z1oXd Z1oXa Z1oXb))
  k_with "exec Assign cons Subscript" => (refine stop9 ?_)
  k_with "exec Assign cons ListComp" => ((k_here; k_dflt (refine Assign_ListComp_E (_F₀ := by k_asm) (by rfl) (by with_unfolding_all rfl) (by with_unfolding_all rfl) (by decide) (by rfl) (by decide) (by rfl) (by rfl) (by decide) (by rfl) (by rfl) ?_)))
  trivial
theorem main0 {w : World} {p loose mean mg mb} {dp un : Nat} {gd : Option (List Code)} {L fa : Addr} {ccd : Value} {outer : List Env} {A₀ : Around} {base g : Heap} {m : PySem.Str → Option Value} {s : Shared} {Q : Flow → Shared → Prop} {E : Value → Shared → Prop}
    (l : Addr) (vs : List Value) (ns : List Int) (hI : IntsAre vs ns) (hlen : ns.length ≤ 63) (hl : g.IsList l vs.toArray) (o1 : Obj) (tl : List (Addr × Obj))
    (d1 : o1.data = .cell (some (.ref l))) 
    (hB : Below A₀ base outer g) (hF : Fr g L s.heap m) (hX : (hd.heap_1 w.params).In g) (hT : Top p loose mean mg mb g) (hr : dp + 30 < recursionLimit) (hu : un + 16 * 30 < cLine) (hC : CodeHd base 109 107)
    (hN : News g L s.heap ((L + 1, o1) :: tl))
    (next : ∀ (h' : Heap) (tk' : Nat) (m' : PySem.Str → Option Value) (Dh : Addr) (a0 a1 a2 : Int) (t0 t1 t2 : Tok), 0 ≤ a0 → 0 ≤ a1 → 0 ≤ a2 → m' = (fun y => if y = (PySem.Str.ofString "heaps") then some (.ref Dh) else m y) → (∀ p ∈ tl, @LT.lt Nat _ p.1 Dh) → Fr g L h' m' →
      News g L h' ((Dh, listOf [.int a0 t0, .int a1 t1, .int a2 t2].toArray 3) :: (L + 1, o1) :: tl) →
      wpAny (model Challenge.pw_sc0056_02 w) (lawA dp un gd L fa ccd outer) (execs (lawBody.drop 1) (lawEnv L fa ccd)) Q E { s with heap := h', toks := tk' }) :
    wpAny (model Challenge.pw_sc0056_02 w) (lawA dp un gd L fa ccd outer) (execs lawBody (lawEnv L fa ccd)) Q E s := by
  obtain ⟨hp, gns, dr, tk, os⟩ := s
  conv in lawBody => whnf
  (try clear sfl)
  k_steps
  refine Stop9.go ?_
  rename Fr _ _ _ _ => F1
  rename News _ _ _ _ => N1
  k_dflt (refine srcE_tuple rfl F1 N1 (.head _) (Nat.le_of_ble_eq_true rfl) fun h' => ?_)
  refine restE_ind (J := fun i ys news => (∃ hs, IntsAre ys hs ∧ hs.length = i ∧ ∀ x ∈ hs, (0 : Int) ≤ x) ∧ news = _) ?step ?fin _ 0 _ _ (Nat.zero_add _) ⟨⟨[], .nil, rfl, by simp⟩, rfl⟩
  case step =>
    clear N1 F1
    rintro i v t ys news e oe it oi C oC D m2 h2 tk2 E9 hi hP ⟨⟨hs, hJ1, hJ2, hJ3⟩, rfl⟩ hC2 hx hx2 F2 N2 off off1 ne
    have hv : ∃ n t, v = Value.int n t ∧ 0 ≤ n := by
      have hi' : i < 3 := hi
      rcases i with _ | _ | _ | i
      · cases hP; exact ⟨_, _, rfl, by decide⟩
      · cases hP; exact ⟨_, _, rfl, by decide⟩
      · cases hP; exact ⟨_, _, rfl, by decide⟩
      · omega
    obtain ⟨n, tn, rfl, hn⟩ := hv
    clear hP
    dsimp only
    k_steps
    refine Stop9.go ?_
    rename Fr _ _ _ _ => F3
    rename News _ _ _ _ => N3
    rename IntsAre _ _ ∧ _ => hms
    obtain ⟨hms, hms2⟩ := hms
    k_dflt (refine CompSrc.ledger rfl F3 N3 (.head _) ?sz fun g' => ?_)
    case sz =>
      have := hms.length
      rw [List.size_toArray, PySem.sizeLine_eq]; omega
    refine rest_ind (J := fun i ys news => (∃ hs, IntsAre ys hs ∧ ∀ x ∈ hs, (0 : Int) ≤ x) ∧ news = _) ?step2 ?fin2 _ 0 _ _ (Nat.zero_add _) ⟨⟨[], .nil, by simp⟩, rfl⟩
    case step2 =>
      clear N3 F3 N2 F2
      rintro i2 v2 ys2 news2 I2 oI2 C2 oC2 D2 m3 h3 tk3 E3 hi2 hP2 ⟨⟨hs2, hK1, hK2⟩, rfl⟩ hC3 hx3 F4 N4 off4 ne4
      obtain ⟨n2, t2, rfl⟩ := ints_get hms hP2
      dsimp only
      k_steps
      refine Stop9.go ?_
      rename Fr _ _ _ _ => F5
      rename News _ _ _ _ => N5
      refine CompEnd.intro F5 N5 _ ?sub off4 ?src ⟨⟨hs2 ++ [n2 % 1000000], ints_snoc hK1, fun x hx => ?_⟩, rfl⟩
      case sub => (intro p hp; repeat first | exact hp | apply List.mem_cons_of_mem)
      case src => lcg_src
      rcases List.mem_append.mp hx with hx | hx
      · exact hK2 x hx
      · rw [List.mem_singleton.mp hx]; exact Int.emod_nonneg _ (by decide)
    case fin2 =>
      clear N3 F3 N2 F2
      rintro ys2 news2 ⟨⟨hs2, hK1, hK2⟩, rfl⟩
      dsimp only
      k_steps
      refine Stop9.go ?_
      rename Fr _ _ _ _ => F5
      rename News _ _ _ _ => N5
      refine CompEnd.intro F5 N5 ((it, oi) :: _) ?sub off (keyIn_mk (.head _) off1) ⟨⟨hs ++ [n + hs2.sum], ints_snoc hJ1, by simp [hJ2], fun x hx => ?_⟩, rfl⟩
      case sub => (intro p hp; repeat first | exact hp | apply List.mem_cons_of_mem)
      rcases List.mem_append.mp hx with hx | hx
      · exact hJ3 x hx
      · rw [List.mem_singleton.mp hx]
        have := sum_nonneg hK2
        omega
  case fin =>
    rintro ys news ⟨⟨hs, hJ1, hJ2, hJ3⟩, rfl⟩
    clear N1 F1
    intro Dh h5 tk5 F5 N5 o5 lt5
    have ltl : ∀ p ∈ tl, @LT.lt Nat _ p.1 Dh := fun p hp => lt5 p (by repeat first | exact hp | apply List.mem_cons_of_mem)
    k_lt lt5
    obtain ⟨a0, a1, a2, t0, t1, t2, rfl, q0, q1, q2⟩ := ints3 hJ1 hJ2 hJ3
    ((try clear sfl); have sfl : StopH := trivial)
    dsimp only
    k_steps
    refine Stop9.go ?_
    rename Fr _ _ _ _ => F6
    rename News _ _ _ _ => N6
    refine next _ _ _ Dh a0 a1 a2 t0 t1 t2 q0 q1 q2 rfl ltl F6 (news_sub N6 (by (intro p hp; (repeat (rcases List.mem_cons.mp hp with rfl | hp; · k_mem)); repeat first | exact hp | apply List.mem_cons_of_mem)))
end
section
local macro_rules | `(tactic| walk_at "zz0") => `(tactic| fail)
local macro_rules | `(tactic| walk_at "zz1") => `(tactic| fail)
local macro_rules | `(tactic| walk_at "zz2") => `(tactic| fail)
example : True := by
  k_with_none
  w_top off
  k_with "olt" => (first | assumption | ((fail_if_success refine oM ?_); refine oL ?_; k_extra "ole") | k_extra "olh")
  k_with "olh" => (refine oH (by assumption) (by k_extra "ole"))
  k_with "ole" => (first | exact Nat.le_refl _ | assumption | exact oB | ((first | refine oA ?_ | refine oA2 ?_ | refine oA3 ?_); k_extra "ocl") | (refine oS ?_; k_extra "ole") | (refine Nat.le_of_lt ?_; (first | assumption | k_extra "olh")) | exact oE)
  k_with "olt2" => (first | k_extra "oas" | ((fail_if_success refine oM ?_); refine oL ?_; k_extra "ole2") | k_extra "olh2")
  k_with "olh2" => (refine oH (by k_extra "oas") (by k_extra "ole2"))
  k_with "ole2" => (first | exact Nat.le_refl _ | k_extra "oas" | exact oB | ((first | refine oA ?_ | refine oA2 ?_ | refine oA3 ?_); k_extra "ocl") | (refine oS ?_; k_extra "ole2") | (refine Nat.le_of_lt ?_; (first | k_extra "oas" | k_extra "olh2")) | exact oE)
  k_with "opu" => (first | exact oB | exact Nat.le_refl _ | (refine oS ?_; k_extra "opu"))
  k_with "olt0" => (refine oL ?_; k_extra "opu")
  k_with "one" => (first | (refine Nat.ne_of_gt ?_; (fail_if_success refine oM ?_); k_extra "olt0") | (refine Nat.ne_of_lt ?_; (fail_if_success refine oM ?_); k_extra "olt0") | exact Ne.symm (by assumption) | (refine Nat.ne_of_gt ?_; (fail_if_success refine oM ?_); k_extra "oas") | (refine Nat.ne_of_lt ?_; (fail_if_success refine oM ?_); k_extra "oas") | (refine Nat.ne_of_gt ?_; (fail_if_success refine oM ?_); k_extra "odd") | (refine Nat.ne_of_lt ?_; (fail_if_success refine oM ?_); k_extra "odd") | (refine Nat.ne_of_gt ?_; (fail_if_success refine oM ?_); k_extra "olt") | (refine Nat.ne_of_lt ?_; (fail_if_success refine oM ?_); k_extra "olt") | (refine Nat.ne_of_gt ?_; (fail_if_success refine oM ?_); k_extra "olt2") | (refine Nat.ne_of_lt ?_; (fail_if_success refine oM ?_); k_extra "olt2") | decide)
  k_with "ol1" => (first | ((fail_if_success refine oM ?_); first | k_extra "oas" | k_extra "olt0" | k_extra "odd" | k_extra "olt" | k_extra "olt2") | k_extra "ocl" | exact oT0 | exact oT5)
  k_with "oe1" => (first | ((fail_if_success refine oN ?_); first | k_extra "oas" | k_extra "opu" | k_extra "ole" | k_extra "ole2" | exact oE (by k_extra "oas")) | k_extra "ocl" | k_extra "olit" | k_extra "oas")
  k_with "olit" => (first | exact oT4 | exact oP | exact oP2 | exact oT1 | exact oT2 | exact oT3 | exact oQ5 | exact oQ1 | exact oQ2 | exact oQ3 | exact oQ4 | exact oQ6 | exact oD)
  k_with "ocl" => (with_unfolding_all exact Nat.le_of_ble_eq_true rfl)
  k_with "oas" => (first | assumption | exact oa1 | exact ob1 | exact oa2 | exact ob2 | exact oa3 | exact ob3 | exact oa4 | exact ob4 | exact oa5 | exact ob5 | exact oa6 | exact ob6 | exact oa7 | exact ob7)
  k_with "odd" => (first | exact oa1 ob7 | exact oa2 ob7 | exact oa3 ob7 | exact oa4 ob7 | exact oa5 ob7 | exact oa6 ob7 | exact oa7 ob7 | exact oa1 (ob7 ob7) | exact oa2 (ob7 ob7) | exact oa3 (ob7 ob7) | exact oa4 (ob7 ob7) | exact oa5 (ob7 ob7) | exact oa6 (ob7 ob7) | exact oa7 (ob7 ob7) | exact ob1 ob7 | exact ob2 ob7 | exact ob3 ob7 | exact ob4 ob7 | exact ob5 ob7 | exact ob6 ob7 | exact ob7 ob7)
  k_with "oin" => (first | decide | exact oI1 | exact oI3 | exact oI2 (by k_extra "oas"))
  k_with "om" => (with_reducible first | (first | assumption | ((fail_if_success fail_if_success refine oXn ?_); k_extra "one") | ((fail_if_success fail_if_success refine oXl ?_); k_extra "ol1") | ((fail_if_success fail_if_success refine oXe ?_); k_extra "oe1") | k_extra "oin") | fail)
  k_with "S_fit" => (first | omega | ((simp only [S_len, List.length_append, List.length_cons, List.length_nil, List.length_take, List.length_drop, dots, PySem.sizeLine_eq]); omega))
  k_with "call builtin:len" => (((with_reducible show wpAny _ _ (call (Value.builtin "len") [Value.str (S _) _]) _ _ _); refine r_len (by walk_at "S_fit") ?_))
  k_with "call builtin:str.startswith" => (((with_reducible show wpAny _ _ (call (Value.builtin "str.startswith") [Value.str (S _) _, Value.str (S _) _]) _ _ _); refine r_starts ?_))
  k_with "call builtin:str.endswith" => (((with_reducible show wpAny _ _ (call (Value.builtin "str.endswith") [Value.str (S _) _, Value.str (S _) _]) _ _ _); refine r_ends ?_))
  k_with "truthy str" => (((with_reducible show wpAny _ _ (truthy (Value.str (S _) _)) _ _ _); refine r_truthy (by walk_at "S_fit") ?_))
  k_with "exec For Name Name cons nil" => ((k_here; (rename Fr _ _ _ _ => Z6Xa); (with_unfolding_all refine' For_invVF Z6Xa ?Q6Xa ?Q6Xb ?_; (case Q6Xa => exact rfl); (case Q6Xb => exact rfl); k_whole)))
  k_with "pyIter ref" => (((with_reducible show wpAny _ _ (pyIter (Value.ref _)) (fun it s₂ => LoopAtV _ _ _ _ _ _ _ _ _ it s₂) _ _); k_listUnr))
  k_with "S_enter" => ((refine' code_defG (news := []) ?Q8Xa ?Q8Xb ?Q8Xc ?Q8Xd ?Q8Xe ?Q8Xf ?Q8Xg ?Q8Xh ?Q8Xi ?Q8Xj ?Q8Xk ?Q8Xl ?Q8Xm ?_ ?Q8Xn ?Q8Xo ?Q8Xp ?Q8Xq; (case Q8Xf => exact rfl); (case Q8Xg => exact rfl); (case Q8Xh => assumption); (case Q8Xa => k_asm); (case Q8Xb => k_asm); (case Q8Xc => k_asm); (case Q8Xd => exact News.nil); (case Q8Xe => k_asm); (case Q8Xi => k_is); (case Q8Xj => k_is); (case Q8Xk => ktr_room); (case Q8Xl => exact BindsTo.of_eq rfl); (case Q8Xq => decide); (case Q8Xm => exact locs rfl); (case Q8Xn => exact rfl); (case Q8Xo => exact rfl); (case Q8Xp => exact rfl); k_whole; intro Z8Xh Z8Xd Z8Xi Z8Xc Z8Xb Z8Xe Z8Xa Z8Xg Z8Xf Z8Xj; (try dsimp only [List.map_nil] at Z8Xj); (try dsimp only); (try k_lift Z8Xa); (try k_fold)))
  k_with "S_look" => (first | exact rfl | assumption | exact (if_pos rfl) | (refine (if_neg (by decide)).trans ?_; walk_at "S_look"))
  k_with "eval Name" => ((k_here; k_dflt (refine' nameX_L ?QaXa ?QaXb ?_ ?QaXc ?QaXd; (case QaXa => k_asm); (case QaXc => rfl); (case QaXd => rfl); (case QaXb => walk_at "S_look"); k_whole)))
  k_with "S_lit" => (first | (with_reducible exact lit_dots) | (with_reducible rfl))
  k_with "S_nn" => (first | omega | ((simp only [List.length_append, List.length_cons, List.length_nil, List.length_take, List.length_drop, dots] at *); omega))
  k_with "binaryOp Add str str" => (((with_reducible show wpAny _ _ (binaryOp _ (Value.str _ _) (Value.str _ _)) _ _ _); k_dflt (refine r_add (by walk_at "S_lit") (by walk_at "S_lit") (by walk_at "S_fit") ?_); intro _ _))
  k_with "subscriptTail Name Slice str ref" => (((with_reducible show wpAny _ _ (subscriptTail _ (Expr.Slice none (some _) none _) (Value.str (S _) _) _) _ _ _); (with_reducible rename Fr _ _ _ _ => ZeXa); (with_reducible rename News _ _ _ _ => ZeXb); (refine r_sliceTo (s := ⟨_, _, _, _, _⟩) ZeXa ZeXb (by walk_at "S_nn") (by walk_at "S_fit") ?_); intro _ _ _ _ _))
  k_with "subscriptTail Name Slice str ref" => (((with_reducible show wpAny _ _ (subscriptTail _ (Expr.Slice (some _) none none _) (Value.str (S _) _) _) _ _ _); (with_reducible rename Fr _ _ _ _ => ZfXa); (with_reducible rename News _ _ _ _ => ZfXb); (refine r_sliceFrom (s := ⟨_, _, _, _, _⟩) ZfXa ZfXb (by walk_at "S_nn") (by walk_at "S_fit") ?_); intro _ _ _ _ _))
  k_with "exec For Name Call cons nil" => ((k_here; (rename Fr _ _ _ _ => ZgXa); (with_unfolding_all refine' For_invVF ZgXa ?QgXa ?QgXb ?_; (case QgXa => exact rfl); (case QgXb => exact rfl); k_whole)))
  k_with "S_use" => ((refine' pcon_use ?QhXa ?QhXb ?QhXc ?QhXd ?QhXe ?QhXf ?QhXg ?QhXh ?_; (case QhXb => k_asm); (case QhXc => k_asm); (case QhXd => k_asm); (case QhXe => k_asm); (case QhXa => walk_at "S_con"); (case QhXf => first | exact rfl | assumption); (case QhXg => ktr_room); (case QhXh => ktr_units)))
  k_with "call ref" => ((k_here; k_dflt (walk_at "S_use"); intro ZiXf ZiXd ZiXe ZiXb; (have ZiXa := Fr.keeps (by k_asm) ZiXb); (have ZiXc := News.grown (by k_asm) ZiXb); walk_at "S_back" <;> ((try dsimp only); (try k_fold))))
  k_with "pyIter ref" => (k_extra "S_loop")
  k_with "S_bool" => ((intro ZkXa; (rcases bool_or ZkXa with ⟨R8, R7⟩ | ⟨R8, R7⟩) <;> subst R7))
  k_with "call builtin:list.append" => ((k_here; (with_reducible show wpAny _ _ (call (Value.builtin _) [Value.ref _, _]) _ _ _); k_dflt (refine' append_K ?QlXa ?QlXb ?QlXc ?_ ?QlXd; (case QlXa => k_asm); (case QlXb => k_asm); (case QlXc => k_upd); (case QlXd => exact size_ok (k := 100000) (by omega) (by decide)); k_whole); intro ZlXc ZlXa ZlXb; (try k_sweep)))
  k_with "m_k_room" => (ktr_room)
  k_with "m_k_units" => (ktr_units)
  k_with "S_enterM" => ((refine' code_defG ?QoXa ?QoXb ?QoXc ?QoXd ?QoXe ?QoXf ?QoXg ?QoXh ?QoXi ?QoXj ?QoXk ?QoXl ?QoXm ?_ ?QoXn ?QoXo ?QoXp ?QoXq; (case QoXf => exact rfl); (case QoXg => exact rfl); (case QoXh => assumption); (case QoXa => k_asm); (case QoXb => k_asm); (case QoXc => k_asm); (case QoXd => k_asm); (case QoXe => k_asm); (case QoXi => k_is); (case QoXj => k_is); (case QoXk => ktr_room); (case QoXl => exact BindsTo.of_eq rfl); (case QoXq => decide); (case QoXm => exact locs rfl); (case QoXn => exact rfl); (case QoXo => exact rfl); (case QoXp => exact rfl); k_whole; intro ZoXh ZoXd ZoXi ZoXc ZoXb ZoXe ZoXa ZoXg ZoXf ZoXj; (try dsimp only [List.map_nil, List.map_cons] at ZoXj); (try dsimp only); (try k_lift ZoXa); (try k_fold)))
  k_with "callWith" => (((with_reducible show wpAny _ _ (callWith _ (Prod.fst _) (Prod.snd _) _ _) _ _ _); dsimp only))
  k_with "S_int" => (first | omega | decide | ((simp only [List.length_cons, List.length_nil, decide_eq_true_eq, decide_eq_false_iff_not, beq_iff_eq, beq_eq_false_iff_ne, ne_eq, Int.not_lt, Int.not_le] at *); omega))
  k_with "binaryOp FloorDiv int int" => (((with_reducible show wpAny _ _ (binaryOp _ (Value.int _ _) (Value.int _ _)) _ _ _); k_dflt (refine r_fdiv (by walk_at "S_int") (by walk_at "S_int") ?_); intro _ _))
  k_with "binaryOp Mod int int" => (((with_reducible show wpAny _ _ (binaryOp _ (Value.int _ _) (Value.int _ _)) _ _ _); k_dflt (refine r_fmod (by walk_at "S_int") ?_); intro _ _))
  k_with "S_item" => (((with_reducible show wpAny _ _ (subscriptTail _ _ (Value.str (S _) _) (Value.int _ _)) _ _ _); k_dflt (refine r_item (by walk_at "S_int") (by walk_at "S_int") (by walk_at "S_fit") ?_); intro _ _))
  k_with "subscriptTail Name BinOp str int" => (walk_at "S_item")
  k_with "subscriptTail Name Constant str int" => (walk_at "S_item")
  k_with "subscriptTail Name Name str int" => (walk_at "S_item")
  k_with "S_lit" => (first | (with_reducible exact lit_dots) | (with_reducible exact lit_empty) | (with_reducible exact lit34) | (with_reducible exact lit9234) | (with_reducible exact lit92) | (with_reducible exact lit10) | (with_reducible exact lit38) | (with_reducible exact lit59) | (with_reducible rfl))
  k_with "call builtin:str.replace" => (((with_reducible show wpAny _ _ (call (Value.builtin _) [Value.str (S _) _, Value.str _ _, Value.str _ _]) _ _ _); k_dflt (refine r_replace (by walk_at "S_lit") (by walk_at "S_lit") (by decide) (Nat.succ_ne_zero _) (Nat.succ_ne_zero _) (Nat.ne_of_lt (Nat.lt_succ_self _)) (by decide) (by walk_at "S_nn") ?_); intro _ _))
  k_with "call builtin:str.join" => ((k_here; (with_reducible show wpAny _ _ (call (Value.builtin _) [Value.str _ _, Value.ref _]) _ _ _); k_dflt (refine r_join (by walk_at "S_lit") (by walk_at "S_isl") (by walk_at "S_strs") (by walk_at "S_sum") ?_); intro _ _))
  k_with "S_isl" => (first | assumption | exact ⟨LCg.lst _, News.get (by k_asm) (by k_mem), rfl, _, rfl⟩ | is_list)
  k_with "S_strs" => (first | exact StrsAre.nil | assumption | (exact CharsAre.strs (by assumption)))
  k_with "binaryOp Mult str int" => (((with_reducible show wpAny _ _ (binaryOp _ (Value.str (S _) _) (Value.int _ _)) _ _ _); k_dflt (refine r_mul (by walk_at "S_int") (by walk_at "S_int") (by walk_at "S_nn") ?_); intro _ _))
  k_with "S_enterC" => ((refine' code_defCG ?Q13Xa ?Q13Xb ?Q13Xc ?Q13Xd ?Q13Xe ?Q13Xf ?Q13Xg ?Q13Xh ?Q13Xi ?Q13Xj ?Q13Xk ?Q13Xl ?Q13Xm ?Q13Xn ?_ ?Q13Xo ?Q13Xp ?Q13Xq; (case Q13Xf => exact rfl); (case Q13Xg => exact rfl); (case Q13Xh => assumption); (case Q13Xa => k_asm); (case Q13Xb => k_asm); (case Q13Xc => k_asm); (case Q13Xd => k_asm); (case Q13Xe => k_asm); (case Q13Xi => k_is); (case Q13Xj => k_is); (case Q13Xk => ktr_room); (case Q13Xl => exact BindsTo.of_eq rfl); (case Q13Xm => rfl); (case Q13Xn => decide); (case Q13Xo => exact rfl); (case Q13Xp => exact rfl); (case Q13Xq => exact rfl); k_whole; intro Z13Xj Z13Xd Z13Xk Z13Xo Z13Xi Z13Xc Z13Xb Z13Xe Z13Xh Z13Xa Z13Xg Z13Xf Z13Xm Z13Xl Z13Xn; (try dsimp only [List.map_nil, List.map_cons] at Z13Xl); (try k_lt Z13Xm); k_cells Z13Xh; (try simp only [List.cons_append, List.nil_append] at Z13Xe); (try dsimp only); (try k_lift Z13Xa); (try k_fold)))
  k_with "S_lcs" => ((k_here; k_dflt (refine ListComp_S (_F₀ := by k_asm) (by rfl) (by decide) (by rfl) (by decide) (by rfl) ?_)))
  k_with "S_lit" => (first | (with_reducible exact lit_dots) | (with_reducible exact lit_empty) | (with_reducible exact lit34) | (with_reducible exact lit9234) | (with_reducible exact lit92) | (with_reducible exact lit10) | (with_reducible exact lit38) | (with_reducible exact lit59) | (with_reducible exact lit60) | (with_reducible exact lit62) | (with_reducible exact lit13) | (with_reducible exact lit9) | (with_reducible exact litamp) | (with_reducible exact litlt) | (with_reducible exact litgt) | (with_reducible exact litquot) | (with_reducible rfl))
  k_with "S_sum" => (assumption)
  k_with "eval ListComp" => ((k_here; (with_reducible show wpAny _ _ (eval (PySem.Expr.ListComp _ [⟨PySem.Expr.Tuple _ _ _, _, [], 0⟩] _ _) _) _ _ _); k_dflt (refine ListComp_E (_F₀ := by k_asm) (by rfl) (by decide) (by rfl) (by decide) (by rfl) (by rfl) (by decide) ?_)))
  k_with "eval ListComp" => ((k_here; (with_reducible show wpAny _ _ (eval (PySem.Expr.ListComp _ [⟨PySem.Expr.Name _ _, _, [], 0⟩] _ _) _) _ _ _); k_dflt (refine LCg.ListComp_U (F₀ := by k_asm) (by rfl) (by decide) (by rfl) (by decide) (by rfl) ?_)))
  k_with "call type:enumerate" => (refine stop9 ?_)
  k_with "exec Assign cons ListComp" => ((k_here; k_dflt (refine wpAny_Assign_Name ?_ (by rfl))))
  k_with "CompSrc" => (refine stop9 ?_)
  k_with "CompEnd" => (refine stop9 ?_)
  k_with "FinE" => (((unfold LCg.FinE); intro Z1dXa Z1dXd Z1dXf Z1dXb Z1dXc Z1dXe; (try simp only [List.nil_append, List.cons_append] at Z1dXc); (try dsimp only)))
  k_with "FinA" => (((unfold LCg.FinA); intro Z1eXa Z1eXd Z1eXf Z1eXb Z1eXc Z1eXe; (try simp only [List.nil_append, List.cons_append] at Z1eXc); (try dsimp only)))
  k_with "m_k_ne" => (first | (refine neN ?_; (try dsimp only); omega) | exact off1_ne (by assumption) (by k_mem) | exact Ne.symm (off1_ne (by assumption) (by k_mem)))
  k_with "eval ListComp" => ((k_here; (with_reducible show wpAny _ _ (eval (PySem.Expr.ListComp _ [⟨PySem.Expr.Name _ _, _, [_], 0⟩] _ _) _) _ _ _); k_dflt (refine LCt.ListComp_T (F₀ := by k_asm) (by rfl) (by decide) (by rfl) (by decide) (by rfl) ?_)))
  k_with "CompSrcT" => (refine stop9 ?_)
  k_with "S_laps" => ((intro Z1iXf; obtain ⟨Z1iXa, Z1iXj, Z1iXi, Z1iXh, Z1iXc, Z1iXd, Z1iXe⟩ := Z1iXf; subst Z1iXh; (obtain ⟨Z1iXb, Z1iXg⟩ := news_add (by k_asm) (by k_asm) (by k_asm) Z1iXc Z1iXd)))
  k_with "S_il" => (((rename News _ _ _ _ => Z1jXa); exact ⟨_, News.get Z1jXa (by k_mem), rfl, _, rfl⟩))
  k_with "execs cons" => (((have _sf : StopH := by assumption); clear _sf; refine stop9 ?_))
  k_with "call ref" => (refine stop9 ?_)
  k_with "m_k_all" => (assumption)
  trivial
theorem main8 {w : World} {p loose mean mg mb} {dp un : Nat} {gd : Option (List Code)} {L fa : Addr} {ccd : Value} {outer : List Env} {A₀ : Around} {base g : Heap} {m : PySem.Str → Option Value} {s : Shared} {Q : Flow → Shared → Prop} {E : Value → Shared → Prop} (o8 : Obj) (d8 : o8.data = .cell (none)) (tl : List (Addr × Obj)) (x0 x1 : List Nat) (v0 v1 : Tok) (e0 : x0.length ≤ 5) (e1 : x1.length ≤ 5) (tp : Tok) (n_page : m (PySem.Str.ofString "page") = some (.str (S (pageB x0 x1)) tp))  (h7 : ∀ p ∈ ((L + 1 + 1 + 1 + 1 + 1 + 1 + 1 + 1, o8) :: tl), @LT.lt Nat _ 107 p.1) (htl : ∀ p ∈ tl, p.1 ≠ L + 1 + 1 + 1 + 1 + 1 + 1 + 1 + 1)
    (hB : Below A₀ base outer g) (hF : Fr g L s.heap m) (hX : (hd.heap_1 w.params).In g) (hT : Top p loose mean mg mb g) (hr : dp + 30 < recursionLimit) (hu : un + 16 * 30 < cLine) (hC : CodeHd base 109 107) (hN : News g L s.heap ((107, tabObj #[]) :: (L + 1 + 1 + 1 + 1 + 1 + 1 + 1 + 1, o8) :: tl))
    (next : ∀ (h' : Heap) (tk' : Nat) (o' : Obj) (r : RP) (tz : Tok) (kp : Nat) (lf : List Value) (kl : Nat) (ps : Array Value), r.Ok → CharsAre lf (pageB x0 x1).reverse → (∀ p ∈ tl, @LT.lt Nat _ p.1 r.aC) → @LT.lt Nat _ (L + 1 + 1 + 1 + 1 + 1 + 1 + 1 + 1) r.aC → o'.data = .cell (some (.ref r.aR)) →
      Fr g L h' m → News g L h' (rdr 153 w.params r 1 tz [] kp lf kl ++ (L + 1 + 1 + 1 + 1 + 1 + 1 + 1 + 1, o') :: (107, tabObj ps) :: tl) →
      wpAny (model Challenge.pw_sc0056_02 w) (lawA dp un gd L fa ccd outer) (execs (lawBody.drop 9) (lawEnv L fa ccd)) Q E { s with heap := h', toks := tk' }) :
    wpAny (model Challenge.pw_sc0056_02 w) (lawA dp un gd L fa ccd outer) (execs (lawBody.drop 8) (lawEnv L fa ccd)) Q E s := by
  have hpl := pageB_len e0 e1
  obtain ⟨hp, gns, dr, tk, os⟩ := s
  conv in (List.drop _ lawBody) => whnf
  (try clear sfl)
  walk1
  ((try clear sfl); have sfl : StopH := trivial)
  k_steps
  refine Stop9.go ?_
  rename Fr _ _ _ _ => F1
  rename News _ _ _ _ => N1
  k_dflt (refine con_reader (pageB x0 x1) _ (by omega) hB F1 hX hT ?kk ?kr ?ku hC (news_sub N1 (by lcg_sub)) fun r tz kp lf kl ps h' tk' ok hlf F2 N2 K2 O2 => ?_)
  case kk => rfl
  case kr => ktr_room
  case ku => ktr_units
  have lt1 : ∀ q ∈ ((L + 1 + 1 + 1 + 1 + 1 + 1 + 1 + 1, o8) :: tl), @LT.lt Nat _ q.1 r.aC := fun q hq => Nat.lt_of_lt_of_le (Heap.lt_size (N1 q (.tail _ hq)).1) (O2 (r.aC, r.oC) (by k_mem))
  have N3 : News g L h' (((L + 1 + 1 + 1 + 1 + 1 + 1 + 1 + 1, o8) :: tl) ++ (rdr 153 w.params r 1 tz [] kp lf kl ++ [(107, tabObj ps)])) := by
    intro q hq
    rcases List.mem_append.mp hq with hq | hq
    · have hq1 := N1 q (.tail _ hq)
      refine ⟨K2 _ _ hq1.1 (fun hm => ?_), hq1.2⟩
      have e : q.1 = 107 := List.mem_singleton.mp hm
      have e2 := h7 q hq
      rw [e] at e2
      exact absurd e2 (Nat.lt_irrefl _)
    · exact N2 q hq
  have l8 := lt1 (L + 1 + 1 + 1 + 1 + 1 + 1 + 1 + 1, o8) (.head _)
  have ltl : ∀ p ∈ tl, @LT.lt Nat _ p.1 r.aC := fun p hp => lt1 p (.tail _ hp)
  have hall : ∀ p ∈ tl ++ (rdr 153 w.params r 1 tz [] kp lf kl ++ [(107, tabObj ps)]), p.1 ≠ L + 1 + 1 + 1 + 1 + 1 + 1 + 1 + 1 := fun p hp => by
    rcases List.mem_append.mp hp with hp | hp
    · exact htl p hp
    rcases List.mem_append.mp hp with hp | hp
    · exact fun e => notin_lt (l := 153) (P := w.params) (ln := 1) (tl := tz) (pb := []) (kp := kp) (lf := lf) (kl := kl) ok l8 (List.mem_map.mpr ⟨p, hp, e⟩)
    · rw [List.mem_singleton.mp hp]; exact Nat.ne_of_lt (h7 (L + 1 + 1 + 1 + 1 + 1 + 1 + 1 + 1, o8) (.head _))
  clear N1 F1 N2 K2 O2 lt1
  rw [List.cons_append] at N3
  generalize hR : tl ++ (rdr 153 w.params r 1 tz [] kp lf kl ++ [(107, tabObj ps)]) = R at N3 hall
  dsimp only at l8 ⊢
  k_steps
  refine Stop9.go ?_
  rename Fr _ _ _ _ => F6
  rename News _ _ _ _ => N6
  rename _ = Data.cell (some (Value.ref r.aR)) => d8'
  refine next _ _ _ r tz kp lf kl ps ok hlf ltl l8 d8' F6 (news_sub N6 fun q hq => ?_)
  rw [← hR]
  rcases List.mem_append.mp hq with hq | hq
  · exact .tail _ (List.mem_append_right _ (List.mem_append_left _ hq))
  rcases List.mem_cons.mp hq with rfl | hq
  · exact .head _
  rcases List.mem_cons.mp hq with rfl | hq
  · exact .tail _ (List.mem_append_right _ (List.mem_append_right _ (.head _)))
  · exact .tail _ (List.mem_append_left _ hq)
end
section
example : True := by
  k_with "exec Assign cons ListComp" => ((k_here; k_dflt (refine LCg.Assign_ListComp_U (F₀ := by k_asm) (by rfl) (by with_unfolding_all rfl) (by with_unfolding_all rfl) (by decide) (by rfl) (by decide) (by rfl) (by rfl) (by rfl) ?_)))
  trivial
theorem main9 {w : World} {p loose mean mg mb} {dp un : Nat} {gd : Option (List Code)} {L fa : Addr} {ccd : Value} {outer : List Env} {A₀ : Around} {base g : Heap} {m : PySem.Str → Option Value} {s : Shared} {Q : Flow → Shared → Prop} {E : Value → Shared → Prop} (o8 : Obj) (tl : List (Addr × Obj)) (Dd : Addr) (kd : Nat) (x0 x1 : List Nat) (v0 v1 : Tok) (r0 : ∀ c ∈ x0, R8 c) (r1 : ∀ c ∈ x1, R8 c) (e0 : x0.length ≤ 5) (e1 : x1.length ≤ 5) (ne0 : x0 ≠ []) (ne1 : x1 ≠ []) (r : RP) (ok : r.Ok) (kp : Nat) (ltl : ∀ p ∈ tl, @LT.lt Nat _ p.1 r.aC) (l8 : @LT.lt Nat _ (L + 1 + 1 + 1 + 1 + 1 + 1 + 1 + 1) r.aC) (d8 : o8.data = .cell (some (.ref r.aR))) (ld : @LT.lt Nat _ Dd r.aC) (tz : Tok) (lf : List Value) (kl : Nat) (hlf : CharsAre lf (pageB x0 x1).reverse) (n_drawn : m (PySem.Str.ofString "drawn") = some (.ref Dd)) 
    (hB : Below A₀ base outer g) (hF : Fr g L s.heap m) (hX : (hd.heap_1 w.params).In g) (hT : Top p loose mean mg mb g) (hr : dp + 30 < recursionLimit) (hu : un + 16 * 30 < cLine) (hC : CodeHd base 109 107) (hN : News g L s.heap ((Dd, listOf [.str (S x0) v0, .str (S x1) v1].toArray kd) :: (L + 1 + 1 + 1 + 1 + 1 + 1 + 1 + 1, o8) :: (r.aP, listOf ([] : List Value).toArray kp) :: (r.aR, instObj 59 r.dR) :: (r.dR, dictOf [ent w.params "lineno" r.t1 (.int (1) tz), ent w.params "instream" r.t2 (.ref r.aS), ent w.params "whitespace" r.t3 (.str wsT r.t4), ent w.params "pushback" r.t5 (.ref r.aP)] 4) :: (rdr7 153 w.params r lf kl ++ tl)))
    (next : ∀ (h' : Heap) (tk' : Nat) (m' : PySem.Str → Option Value) (Hd : Addr) (b0 b1 : Tok) (ln : Int) (tz : Tok) (lf : List Value) (kl : Nat), CharsAre lf (rstB x0 x1 2).reverse → ln + ((rstB x0 x1 2).count 10 : Nat) = (1 + ((pageB x0 x1).count 10 : Nat) : Int) → Off1 Hd ((Dd, listOf [.str (S x0) v0, .str (S x1) v1].toArray kd) :: (L + 1 + 1 + 1 + 1 + 1 + 1 + 1 + 1, o8) :: (r.aP, listOf ([] : List Value).toArray kp) :: (r.aR, instObj 59 r.dR) :: (r.dR, dictOf [ent w.params "lineno" r.t1 (.int (ln) tz), ent w.params "instream" r.t2 (.ref r.aS), ent w.params "whitespace" r.t3 (.str wsT r.t4), ent w.params "pushback" r.t5 (.ref r.aP)] 4) :: (rdr7 153 w.params r lf kl ++ tl)) →
      m' = (fun y => if y = (PySem.Str.ofString "heard") then some (.ref Hd) else m y) → Fr g L h' m' → News g L h' ((Hd, listOf [.str (S x0) b0, .str (S x1) b1].toArray 2) :: ((Dd, listOf [.str (S x0) v0, .str (S x1) v1].toArray kd) :: (L + 1 + 1 + 1 + 1 + 1 + 1 + 1 + 1, o8) :: (r.aP, listOf ([] : List Value).toArray kp) :: (r.aR, instObj 59 r.dR) :: (r.dR, dictOf [ent w.params "lineno" r.t1 (.int (ln) tz), ent w.params "instream" r.t2 (.ref r.aS), ent w.params "whitespace" r.t3 (.str wsT r.t4), ent w.params "pushback" r.t5 (.ref r.aP)] 4) :: (rdr7 153 w.params r lf kl ++ tl))) →
      wpAny (model Challenge.pw_sc0056_02 w) (lawA dp un gd L fa ccd outer) (execs (lawBody.drop 10) (lawEnv L fa ccd)) Q E { s with heap := h', toks := tk' }) :
    wpAny (model Challenge.pw_sc0056_02 w) (lawA dp un gd L fa ccd outer) (execs (lawBody.drop 9) (lawEnv L fa ccd)) Q E s := by
  have hpl := pageB_len e0 e1
  obtain ⟨hp, gns, dr, tk, os⟩ := s
  conv in (List.drop _ lawBody) => whnf
  (try clear sfl)
  walk1
  ((try clear sfl); have sfl : StopH := trivial)
  k_steps
  refine Stop9.go ?_
  rename Fr _ _ _ _ => F1
  rename News _ _ _ _ => N1
  k_dflt (refine CompSrc.ledger rfl F1 N1 (.head _) (Nat.le_of_ble_eq_true rfl) fun g' => ?_)
  refine rest_ind (J := fun i ys news => (StrsAre ys ([x0, x1].take i)) ∧ ∃ (ln : Int) (tz : Tok) (lf : List Value) (kl : Nat), CharsAre lf (rstB x0 x1 i).reverse ∧ ln + ((rstB x0 x1 i).count 10 : Nat) = (1 + ((pageB x0 x1).count 10 : Nat) : Int) ∧ news = ((Dd, listOf [.str (S x0) v0, .str (S x1) v1].toArray kd) :: (L + 1 + 1 + 1 + 1 + 1 + 1 + 1 + 1, o8) :: (r.aP, listOf ([] : List Value).toArray kp) :: (r.aR, instObj 59 r.dR) :: (r.dR, dictOf [ent w.params "lineno" r.t1 (.int (ln) tz), ent w.params "instream" r.t2 (.ref r.aS), ent w.params "whitespace" r.t3 (.str wsT r.t4), ent w.params "pushback" r.t5 (.ref r.aP)] 4) :: (rdr7 153 w.params r lf kl ++ tl))) ?step ?fin _ 0 _ _ (Nat.zero_add _) ⟨.nil, 1, tz, lf, kl, hlf, rfl, rfl⟩
  case step =>
    clear N1 F1
    rintro i v ys news I oI C oC D m2 h2 tk2 E9 hi hP ⟨hJ, ln1, tz1, lf1, kl1, hlf1, hln1, rfl⟩ hC2 hx F2 N2 off ne
    have hi' : i < 2 := hi
    dsimp only
    k_steps
    refine Stop9.go (wpAny_call ?_)
    rename Fr _ _ _ _ => F5
    rename News _ _ _ _ => N5
    have hsf := rstB_suf x0 x1 i
    have hin : ∀ q ∈ rdr 153 w.params r (ln1) tz1 [] kp lf1 kl1, q ∈ ((Dd, listOf [.str (S x0) v0, .str (S x1) v1].toArray kd) :: (L + 1 + 1 + 1 + 1 + 1 + 1 + 1 + 1, o8) :: (r.aP, listOf ([] : List Value).toArray kp) :: (r.aR, instObj 59 r.dR) :: (r.dR, dictOf [ent w.params "lineno" r.t1 (.int (ln1) tz1), ent w.params "instream" r.t2 (.ref r.aS), ent w.params "whitespace" r.t3 (.str wsT r.t4), ent w.params "pushback" r.t5 (.ref r.aP)] 4) :: (rdr7 153 w.params r lf1 kl1 ++ tl)) := fun q hq => .tail _ (.tail _ (mem_rd hq))
    k_dflt (refine con_gt r ok ln1 tz1 kp lf1 kl1 (rstB x0 x1 i) ([x0, x1].getD i []) (rstB x0 x1 (i + 1)) hlf1 ?hl ?h8 (tokB_step ne0 ne1 (r8_92 r0) (r8_92 r1) i hi') _ _ _ _ _ _ _ _ _ _ _ _ _ _ ⟨_, _, _, _, _⟩ _ _ hB F5 hX hT ?kk ?kr ?ku hC (news_sub N5 fun q hq => .tail _ (.tail _ (.tail _ (hin q hq)))) fun v post h' tk' F' N' K' R => ?_)
    case hl =>
      have := hsf.length_le
      omega
    case h8 => exact suf_all hsf (pageB_lt r0 r1)
    case kk => rfl
    case kr => ktr_room
    case ku => ktr_units
    obtain ⟨t9, ln9, tz9, lf9, kl9, rfl, rfl, hc9, hn9⟩ := R
    have hof := off.mem
    have No : News g L h' (((I, oI) :: (C, oC) :: (D, lst ys) :: (Dd, listOf [.str (S x0) v0, .str (S x1) v1].toArray kd) :: (L + 1 + 1 + 1 + 1 + 1 + 1 + 1 + 1, o8) :: tl) ++ rdr 153 w.params r (ln9) tz9 [] kp lf9 kl9) := by
      refine con_own (news_sub N5 ?s1) K' N' ?s2
      case s1 =>
        intro q hq
        repeat (rcases List.mem_cons.mp hq with rfl | hq; · k_mem)
        iterate 8 apply List.mem_cons_of_mem
        exact List.mem_append_right _ hq
      case s2 =>
        intro p hp
        rcases List.mem_cons.mp hp with rfl | hp
        · exact notin_off fun q hq => (hof q (hin q hq)).1
        rcases List.mem_cons.mp hp with rfl | hp
        · exact notin_off fun q hq => (hof q (hin q hq)).2.1
        rcases List.mem_cons.mp hp with rfl | hp
        · exact notin_off fun q hq => (hof q (hin q hq)).2.2
        rcases List.mem_cons.mp hp with rfl | hp
        · exact notin_lt ok ld
        rcases List.mem_cons.mp hp with rfl | hp
        · exact notin_lt ok l8
        · exact notin_lt ok (ltl p hp)
    have No2 := news_rd (X := [(I, oI), (C, oC), (D, lst ys), (Dd, listOf [.str (S x0) v0, .str (S x1) v1].toArray kd), (L + 1 + 1 + 1 + 1 + 1 + 1 + 1 + 1, o8)]) No
    clear N5 F5 N' K' No
    dsimp only [List.cons_append, List.nil_append] at No2
    dsimp only
    show CompEnd g L m _ I oI C oC D _ _ _ _ _
    refine' CompEnd.intro F' No2 ((Dd, listOf [.str (S x0) v0, .str (S x1) v1].toArray kd) :: (L + 1 + 1 + 1 + 1 + 1 + 1 + 1 + 1, o8) :: (r.aP, listOf ([] : List Value).toArray kp) :: (r.aR, instObj 59 r.dR) :: (r.dR, dictOf [ent w.params "lineno" r.t1 (.int (ln9) tz9), ent w.params "instream" r.t2 (.ref r.aS), ent w.params "whitespace" r.t3 (.str wsT r.t4), ent w.params "pushback" r.t5 (.ref r.aP)] 4) :: (rdr7 153 w.params r lf9 kl9 ++ tl)) ?sub off ?src ⟨?st, ln9, tz9, lf9, kl9, hc9, hn9.trans hln1, rfl⟩
    case sub => exact fun q hq => hq
    case src => lcg_src
    case st =>
      rw [take_next (d := []) hi']
      exact hJ.append (.cons _ _ .nil)
  case fin =>
    rintro ys news ⟨hJ, ln1, tz1, lf1, kl1, hlf1, hln1, rfl⟩
    clear N1 F1
    intro Hd h5 tk5 F5 N5 o5'
    obtain ⟨b0, b1, rfl⟩ := strs2 (show StrsAre ys [x0, x1] from hJ)
    dsimp only
    k_steps
    refine Stop9.go ?_
    rename Fr _ _ _ _ => F6
    rename News _ _ _ _ => N6
    exact next _ _ _ Hd b0 b1 ln1 tz1 lf1 kl1 hlf1 hln1 o5' rfl F6 N6
end
section
local macro_rules | `(tactic| walk_at "zz0") => `(tactic| fail)
local macro_rules | `(tactic| walk_at "zz1") => `(tactic| fail)
local macro_rules | `(tactic| walk_at "zz2") => `(tactic| fail)
example : True := by
  k_with "compareOp NotEq ref ref" => ((k_here; (with_reducible show wpAny _ _ (compareOp CmpOp.NotEq (Value.ref _) (Value.ref _)) _ _ _); k_dflt (refine' r_ne_same ?Q1oXa ?Q1oXb ?Q1oXc ?Q1oXd ?Q1oXe ?Q1oXf ?_; (case Q1oXa => walk_at "S_isl"); (case Q1oXb => walk_at "S_isl"); (case Q1oXc => exact .cons _ _ (.cons _ _ .nil)); (case Q1oXd => exact .cons _ _ (.cons _ _ .nil)); (case Q1oXe => assumption); (case Q1oXf => ke_room))))
  k_with "compareOp NotEq str str" => ((k_here; k_dflt (refine r_neS (b := false) (by rfl) ?_)))
  k_with "compareOp NotEq int int" => ((k_here; k_dflt (refine r_neI (by first | rfl | assumption | omega) ?_)))
  k_with "call builtin:str.count" => ((k_here; k_dflt (refine r_count (by walk_at "S_lit") ?_); intro _ _))
  trivial
theorem main10 {w : World} {p loose mean mg mb} {dp un : Nat} {gd : Option (List Code)} {L fa : Addr} {ccd : Value} {outer : List Env} {A₀ : Around} {base g : Heap} {m : PySem.Str → Option Value} {s : Shared} {Q : Flow → Shared → Prop} {E : Value → Shared → Prop} (o8 : Obj) (tl : List (Addr × Obj)) (Dd : Addr) (kd : Nat) (x0 x1 : List Nat) (v0 v1 : Tok) (r0 : ∀ c ∈ x0, R8 c) (r1 : ∀ c ∈ x1, R8 c) (e0 : x0.length ≤ 5) (e1 : x1.length ≤ 5) (ne0 : x0 ≠ []) (ne1 : x1 ≠ []) (r : RP) (ok : r.Ok) (kp : Nat) (ltl : ∀ p ∈ tl, @LT.lt Nat _ p.1 r.aC) (l8 : @LT.lt Nat _ (L + 1 + 1 + 1 + 1 + 1 + 1 + 1 + 1) r.aC) (d8 : o8.data = .cell (some (.ref r.aR))) (ld : @LT.lt Nat _ Dd r.aC) (ln : Int) (tz : Tok) (lf : List Value) (kl : Nat) (hlf : CharsAre lf (rstB x0 x1 2).reverse) (hln : ln + ((rstB x0 x1 2).count 10 : Nat) = (1 + ((pageB x0 x1).count 10 : Nat) : Int)) (Hd : Addr) (b0 b1 : Tok) (hof : Off1 Hd ((Dd, listOf [.str (S x0) v0, .str (S x1) v1].toArray kd) :: (L + 1 + 1 + 1 + 1 + 1 + 1 + 1 + 1, o8) :: (r.aP, listOf ([] : List Value).toArray kp) :: (r.aR, instObj 59 r.dR) :: (r.dR, dictOf [ent w.params "lineno" r.t1 (.int (ln) tz), ent w.params "instream" r.t2 (.ref r.aS), ent w.params "whitespace" r.t3 (.str wsT r.t4), ent w.params "pushback" r.t5 (.ref r.aP)] 4) :: (rdr7 153 w.params r lf kl ++ tl))) (tp : Tok) (n_drawn : m (PySem.Str.ofString "drawn") = some (.ref Dd)) (n_heard : m (PySem.Str.ofString "heard") = some (.ref Hd)) (n_page : m (PySem.Str.ofString "page") = some (.str (S (pageB x0 x1)) tp)) 
    (hB : Below A₀ base outer g) (hF : Fr g L s.heap m) (hX : (hd.heap_1 w.params).In g) (hT : Top p loose mean mg mb g) (hr : dp + 30 < recursionLimit) (hu : un + 16 * 30 < cLine) (hC : CodeHd base 109 107) (hN : News g L s.heap ((Hd, listOf [.str (S x0) b0, .str (S x1) b1].toArray 2) :: (Dd, listOf [.str (S x0) v0, .str (S x1) v1].toArray kd) :: (L + 1 + 1 + 1 + 1 + 1 + 1 + 1 + 1, o8) :: (r.aP, listOf ([] : List Value).toArray kp) :: (r.aR, instObj 59 r.dR) :: (r.dR, dictOf [ent w.params "lineno" r.t1 (.int (ln) tz), ent w.params "instream" r.t2 (.ref r.aS), ent w.params "whitespace" r.t3 (.str wsT r.t4), ent w.params "pushback" r.t5 (.ref r.aP)] 4) :: (rdr7 153 w.params r lf kl ++ tl)))
    (next : ∀ (h' : Heap) (tk' : Nat) (tz : Tok) (lf : List Value) (kl : Nat), CharsAre lf [] → Fr g L h' m → News g L h' ((Hd, listOf [.str (S x0) b0, .str (S x1) b1].toArray 2) :: (Dd, listOf [.str (S x0) v0, .str (S x1) v1].toArray kd) :: (L + 1 + 1 + 1 + 1 + 1 + 1 + 1 + 1, o8) :: (r.aP, listOf ([] : List Value).toArray kp) :: (r.aR, instObj 59 r.dR) :: (r.dR, dictOf [ent w.params "lineno" r.t1 (.int ((1 + ((pageB x0 x1).count 10 : Nat) : Int)) tz), ent w.params "instream" r.t2 (.ref r.aS), ent w.params "whitespace" r.t3 (.str wsT r.t4), ent w.params "pushback" r.t5 (.ref r.aP)] 4) :: (rdr7 153 w.params r lf kl ++ tl)) →
      wpAny (model Challenge.pw_sc0056_02 w) (lawA dp un gd L fa ccd outer) (execs (lawBody.drop 11) (lawEnv L fa ccd)) Q E { s with heap := h', toks := tk' }) :
    wpAny (model Challenge.pw_sc0056_02 w) (lawA dp un gd L fa ccd outer) (execs (lawBody.drop 10) (lawEnv L fa ccd)) Q E s := by
  have hpl := pageB_len e0 e1
  have hok : Ok8 [x0, x1] := ok8_two r0 r1
  obtain ⟨hp, gns, dr, tk, os⟩ := s
  conv in (List.drop _ lawBody) => whnf
  (try clear sfl)
  walk1
  ((try clear sfl); have sfl : StopH := trivial)
  k_steps
  refine Stop9.go (wpAny_call ?_)
  rename Fr _ _ _ _ => F5
  rename News _ _ _ _ => N5
  have hsf := rstB_suf x0 x1 2
  have hin : ∀ q ∈ rdr 153 w.params r (ln) tz [] kp lf kl, q ∈ ((Dd, listOf [.str (S x0) v0, .str (S x1) v1].toArray kd) :: (L + 1 + 1 + 1 + 1 + 1 + 1 + 1 + 1, o8) :: (r.aP, listOf ([] : List Value).toArray kp) :: (r.aR, instObj 59 r.dR) :: (r.dR, dictOf [ent w.params "lineno" r.t1 (.int (ln) tz), ent w.params "instream" r.t2 (.ref r.aS), ent w.params "whitespace" r.t3 (.str wsT r.t4), ent w.params "pushback" r.t5 (.ref r.aP)] 4) :: (rdr7 153 w.params r lf kl ++ tl)) := fun q hq => .tail _ (.tail _ (mem_rd hq))
  k_dflt (refine con_gt r ok ln tz kp lf kl (rstB x0 x1 2) [] [] hlf ?hl ?h8 tokB_last _ _ _ _ _ _ _ _ _ _ _ _ _ _ ⟨_, _, _, _, _⟩ _ _ hB F5 hX hT ?kk ?kr ?ku hC (news_sub N5 fun q hq => .tail _ (hin q hq)) fun v post h' tk' F' N' K' R => ?_)
  case hl =>
    have := hsf.length_le
    omega
  case h8 => exact suf_all hsf (pageB_lt r0 r1)
  case kk => rfl
  case kr => ktr_room
  case ku => ktr_units
  obtain ⟨t9, ln9, tz9, lf9, kl9, rfl, rfl, hc9, hn9⟩ := R
  obtain rfl : ln9 = (1 + ((pageB x0 x1).count 10 : Nat) : Int) := by
    rw [hln] at hn9
    simpa using hn9
  have No : News g L h' (((Hd, listOf [.str (S x0) b0, .str (S x1) b1].toArray 2) :: (Dd, listOf [.str (S x0) v0, .str (S x1) v1].toArray kd) :: (L + 1 + 1 + 1 + 1 + 1 + 1 + 1 + 1, o8) :: tl) ++ rdr 153 w.params r ((1 + ((pageB x0 x1).count 10 : Nat) : Int)) tz9 [] kp lf9 kl9) := by
    refine con_own (news_sub N5 ?s1) K' N' ?s2
    case s1 =>
      intro q hq
      repeat (rcases List.mem_cons.mp hq with rfl | hq; · k_mem)
      iterate 6 apply List.mem_cons_of_mem
      exact List.mem_append_right _ hq
    case s2 =>
      intro p hp
      rcases List.mem_cons.mp hp with rfl | hp
      · exact notin_off fun q hq => off1_mem hof q (hin q hq)
      rcases List.mem_cons.mp hp with rfl | hp
      · exact notin_lt ok ld
      rcases List.mem_cons.mp hp with rfl | hp
      · exact notin_lt ok l8
      · exact notin_lt ok (ltl p hp)
  have No2 := news_rd (X := [(Hd, listOf [.str (S x0) b0, .str (S x1) b1].toArray 2), (Dd, listOf [.str (S x0) v0, .str (S x1) v1].toArray kd), (L + 1 + 1 + 1 + 1 + 1 + 1 + 1 + 1, o8)]) No
  clear N5 F5 N' K' No
  dsimp only [List.cons_append, List.nil_append] at No2 ⊢
  k_steps
  refine Stop9.go ?_
  rename Fr _ _ _ _ => F6
  rename News _ _ _ _ => N6
  exact next _ _ _ _ _ hc9 F6 N6
end
section
example : True := by
  k_with "compareOp NotEq ref ref" => ((k_here; (with_reducible show wpAny _ _ (compareOp CmpOp.NotEq (Value.ref _) (Value.ref _)) _ _ _); k_dflt (refine' r_neFs ?Q1sXa ?Q1sXb ?Q1sXc ?Q1sXd ?Q1sXe ?Q1sXf ?Q1sXg ?Q1sXh ?Q1sXi ?Q1sXj ?_; (case Q1sXa => walk_at "S_il"); (case Q1sXb => walk_at "S_il"); (case Q1sXc => assumption); (case Q1sXd => first | exact FoundAre.nil | assumption); (case Q1sXe => (rename News _ _ _ _ => Z1sXa); exact Z1sXa); (case Q1sXf => (intro Z1sXc Z1sXb; (repeat apply List.mem_cons_of_mem); exact hs1 Z1sXc Z1sXb)); (case Q1sXg => (intro Z1sXc Z1sXb; first | (cases Z1sXb; done) | ((repeat apply List.mem_cons_of_mem); exact hs2 Z1sXc Z1sXb))); (case Q1sXh => assumption); (case Q1sXi => assumption); (case Q1sXj => ke_room))))
  k_with "call builtin:sorted" => ((k_here; (with_reducible show wpAny _ _ (call (Value.builtin "sorted") [Value.ref _]) _ _ _); (with_reducible rename Fr _ _ _ _ => Z1tXc); (with_reducible rename News _ _ _ _ => Z1tXe); k_dflt (refine' r_sort2 (s := ⟨_, _, _, _, _⟩) Z1tXc Z1tXe ?Q1tXa ?Q1tXb ?_; (case Q1tXa => exact ⟨_, News.get Z1tXe (.head _), rfl, _, rfl⟩); (case Q1tXb => assumption)); intro Z1tXa Z1tXg Z1tXj Z1tXf Z1tXb Z1tXd Z1tXh Z1tXi))
  trivial
theorem main12 {w : World} {p loose mean mg mb} {dp un : Nat} {gd : Option (List Code)} {L fa : Addr} {ccd : Value} {outer : List Env} {A₀ : Around} {base g : Heap} {m : PySem.Str → Option Value} {s : Shared} {Q : Flow → Shared → Prop} {E : Value → Shared → Prop} (o2 o3 o7 o8 : Obj) (tl : List (Addr × Obj)) (x0 x1 : List Nat) (e0 : x0.length ≤ 5) (e1 : x1.length ≤ 5) (r : RP) (ok : r.Ok) (kp : Nat) (d8 : o8.data = .cell (some (.ref r.aR))) (tz : Tok) (lf : List Value) (kl : Nat) (la lb : Nat) (ta tb : Tok) (hab : la ≠ lb) (d2 : o2.data = .cell (some (.str (S [la]) ta))) (d3 : o3.data = .cell (some (.str (S [lb]) tb))) (n : Nat) (hn3 : 3 ≤ n) (hn5 : n ≤ 5) (tn : Tok) (d7 : o7.data = .cell (some (.int ((n : Nat) : Int) tn))) (Hd : Addr) (b0 b1 : Tok) (Du : Addr) (us : List Value) (ku : Nat) (utl : List (Addr × Obj)) (hdu : FoundAre us utl (dueL x0 x1)) (hutl : ∀ q ∈ utl, q ∈ tl)
    (hoff : OffR w r ((Du, listOf us.toArray ku) :: (Hd, listOf [.str (S x0) b0, .str (S x1) b1].toArray 2) :: (L + 1 + 1 + 1 + 1 + 1 + 1 + 1 + 1, o8) :: (L + 1 + 1 + 1 + 1 + 1 + 1 + 1, o7) :: (L + 1 + 1 + 1, o3) :: (L + 1 + 1, o2) :: tl)) (hsoon : (soonL [lo2 la lb, hi2 la lb] x0 x1 (n / 2 + 1)).take 1 = dueL x0 x1) (hokd : Ok8F (dueL x0 x1)) (h46 : 46 ∉ [lo2 la lb, hi2 la lb]) (h128 : ∀ c ∈ [lo2 la lb, hi2 la lb], c < 128) (n_heard : m (PySem.Str.ofString "heard") = some (.ref Hd)) (n_due : m (PySem.Str.ofString "due") = some (.ref Du)) 
    (hB : Below A₀ base outer g) (hF : Fr g L s.heap m) (hX : (hd.heap_1 w.params).In g) (hT : Top p loose mean mg mb g) (hr : dp + 30 < recursionLimit) (hu : un + 16 * 30 < cLine) (hC : CodeHd base 109 107) (hN : News g L s.heap ((Du, listOf us.toArray ku) :: (Hd, listOf [.str (S x0) b0, .str (S x1) b1].toArray 2) :: (L + 1 + 1 + 1 + 1 + 1 + 1 + 1 + 1, o8) :: (L + 1 + 1 + 1 + 1 + 1 + 1 + 1, o7) :: (L + 1 + 1 + 1, o3) :: (L + 1 + 1, o2) :: (r.aP, listOf ([] : List Value).toArray kp) :: (r.aR, instObj 59 r.dR) :: (r.dR, dictOf [ent w.params "lineno" r.t1 (.int ((1 + ((pageB x0 x1).count 10 : Nat) : Int)) tz), ent w.params "instream" r.t2 (.ref r.aS), ent w.params "whitespace" r.t3 (.str wsT r.t4), ent w.params "pushback" r.t5 (.ref r.aP)] 4) :: (rdr7 153 w.params r lf kl ++ tl)))
    (next : ∀ (h' : Heap) (tk' : Nat) (kp : Nat), Fr g L h' m → News g L h' ((Du, listOf us.toArray ku) :: (Hd, listOf [.str (S x0) b0, .str (S x1) b1].toArray 2) :: (L + 1 + 1 + 1 + 1 + 1 + 1 + 1 + 1, o8) :: (L + 1 + 1 + 1 + 1 + 1 + 1 + 1, o7) :: (L + 1 + 1 + 1, o3) :: (L + 1 + 1, o2) :: (r.aP, listOf ([] : List Value).toArray kp) :: (r.aR, instObj 59 r.dR) :: (r.dR, dictOf [ent w.params "lineno" r.t1 (.int ((1 + ((pageB x0 x1).count 10 : Nat) : Int)) tz), ent w.params "instream" r.t2 (.ref r.aS), ent w.params "whitespace" r.t3 (.str wsT r.t4), ent w.params "pushback" r.t5 (.ref r.aP)] 4) :: (rdr7 153 w.params r lf kl ++ tl)) →
      wpAny (model Challenge.pw_sc0056_02 w) (lawA dp un gd L fa ccd outer) (execs (lawBody.drop 13) (lawEnv L fa ccd)) Q E { s with heap := h', toks := tk' }) :
    wpAny (model Challenge.pw_sc0056_02 w) (lawA dp un gd L fa ccd outer) (execs (lawBody.drop 12) (lawEnv L fa ccd)) Q E s := by
  obtain ⟨hp, gns, dr, tk, os⟩ := s
  conv in (List.drop _ lawBody) => whnf
  (try clear sfl)
  walk1
  ((try clear sfl); have sfl : StopH := trivial)
  k_steps
  refine Stop9.go (wpAny_call ?_)
  rename Fr _ _ _ _ => F5
  rename News _ _ _ _ => N5
  rename CharsAre _ [lo2 la lb, hi2 la lb] => hls
  rename AboveAll _ _ => l1
  obtain ⟨Lt, lv, lk, l', rfl, rfl, rfl, rfl⟩ := two_names N5
  have emost : ((n : Nat) : Int) / 2 + 1 = ((n / 2 + 1 : Nat) : Int) := by omega
  rw [emost]
  k_dflt (refine con_soon r ok (1 + ((pageB x0 x1).count 10 : Nat) : Int) tz kp lf kl [lo2 la lb, hi2 la lb] Lt lv lk hls x0 x1 (n / 2 + 1) _ _ _ (by simp) (by omega) (by omega) (by omega) h46 h128 (l1 (r.aP, _) (by k_mem)) _ _ _ _ _ _ _ _ _ _ _ _ _ _ ⟨_, _, _, _, _⟩ _ _ hB F5 hX hT ?kk ?kr ?ku hC (news_sub N5 ?s0) fun v post h' tk' F' N' K' R => ?_)
  case kk => rfl
  case kr => ktr_room
  case ku => ktr_units
  case s0 =>
    intro q hq
    rcases List.mem_append.mp hq with hq | hq
    · iterate 8 apply List.mem_cons_of_mem
      exact mem_rd hq
    · rw [List.mem_singleton.mp hq]; exact .head _
  obtain ⟨D, k, kp', fv, tls, rfl, hfv, rfl⟩ := R
  have hl1 : ∀ q ∈ ((Du, listOf us.toArray ku) :: (Hd, listOf [.str (S x0) b0, .str (S x1) b1].toArray 2) :: (L + 1 + 1 + 1 + 1 + 1 + 1 + 1 + 1, o8) :: (L + 1 + 1 + 1 + 1 + 1 + 1 + 1, o7) :: (L + 1 + 1 + 1, o3) :: (L + 1 + 1, o2) :: tl), @LT.lt Nat _ q.1 Lt := fun q hq => l1 q (by
    repeat (rcases List.mem_cons.mp hq with rfl | hq; · k_mem)
    iterate 10 apply List.mem_cons_of_mem
    exact List.mem_append_right _ hq)
  have No : News g L h' (((Du, listOf us.toArray ku) :: (Hd, listOf [.str (S x0) b0, .str (S x1) b1].toArray 2) :: (L + 1 + 1 + 1 + 1 + 1 + 1 + 1 + 1, o8) :: (L + 1 + 1 + 1 + 1 + 1 + 1 + 1, o7) :: (L + 1 + 1 + 1, o3) :: (L + 1 + 1, o2) :: tl) ++ ((D, listOf fv.toArray k) :: (rdr 153 w.params r ((1 + ((pageB x0 x1).count 10 : Nat) : Int)) tz [] kp' lf kl ++ (Lt, listOf lv.toArray lk) :: tls))) := by
    refine con_own (news_sub N5 ?s1) K' N' ?s2
    case s1 =>
      intro q hq
      repeat (rcases List.mem_cons.mp hq with rfl | hq; · k_mem)
      iterate 11 apply List.mem_cons_of_mem
      exact List.mem_append_right _ hq
    case s2 =>
      intro p hp hm
      rw [List.map_append] at hm
      rcases List.mem_append.mp hm with hm | hm
      · exact hoff p hp _ _ _ _ _ _ hm
      · rw [List.map_cons, List.map_nil] at hm
        exact absurd (List.mem_singleton.mp hm) (Nat.ne_of_lt (hl1 p hp))
  have NF : News g L h' ((D, listOf fv.toArray k) :: (Du, listOf us.toArray ku) :: (Hd, listOf [.str (S x0) b0, .str (S x1) b1].toArray 2) :: (L + 1 + 1 + 1 + 1 + 1 + 1 + 1 + 1, o8) :: (L + 1 + 1 + 1 + 1 + 1 + 1 + 1, o7) :: (L + 1 + 1 + 1, o3) :: (L + 1 + 1, o2) :: (r.aP, listOf ([] : List Value).toArray kp') :: (r.aR, instObj 59 r.dR) :: (r.dR, dictOf [ent w.params "lineno" r.t1 (.int ((1 + ((pageB x0 x1).count 10 : Nat) : Int)) tz), ent w.params "instream" r.t2 (.ref r.aS), ent w.params "whitespace" r.t3 (.str wsT r.t4), ent w.params "pushback" r.t5 (.ref r.aP)] 4) :: (rdr7 153 w.params r lf kl ++ (tls ++ tl))) := news_soon (X := [(Du, listOf us.toArray ku), (Hd, listOf [.str (S x0) b0, .str (S x1) b1].toArray 2), (L + 1 + 1 + 1 + 1 + 1 + 1 + 1 + 1, o8), (L + 1 + 1 + 1 + 1 + 1 + 1 + 1, o7), (L + 1 + 1 + 1, o3), (L + 1 + 1, o2)]) No
  have hs1 : ∀ q ∈ tls, q ∈ rdr7 153 w.params r lf kl ++ (tls ++ tl) := fun q hq => List.mem_append_right _ (List.mem_append_left _ hq)
  have hs2 : ∀ q ∈ utl, q ∈ rdr7 153 w.params r lf kl ++ (tls ++ tl) := fun q hq => List.mem_append_right _ (List.mem_append_right _ (hutl q hq))
  clear N5 F5 N' K' No hl1 l1
  generalize hTL : rdr7 153 w.params r lf kl ++ (tls ++ tl) = TL at NF hs1 hs2
  dsimp only
  k_steps
  refine Stop9.go ?_
  rename Fr _ _ _ _ => F6
  rename News _ _ _ _ => N6
  refine next _ _ kp' F6 (news_sub N6 ?sz)
  case sz =>
    intro q hq
    repeat (rcases List.mem_cons.mp hq with rfl | hq; · k_mem)
    rw [← hTL]
    iterate 10 apply List.mem_cons_of_mem
    rcases List.mem_append.mp hq with hq | hq
    · exact List.mem_append_left _ hq
    · exact List.mem_append_right _ (List.mem_append_right _ hq)
end
section
local macro_rules | `(tactic| walk_at "zz0") => `(tactic| fail)
local macro_rules | `(tactic| walk_at "zz1") => `(tactic| fail)
local macro_rules | `(tactic| walk_at "zz2") => `(tactic| fail)
example : True := by
  k_with "compareOp NotEq ref ref" => ((k_here; (with_reducible show wpAny _ _ (compareOp CmpOp.NotEq (Value.ref _) (Value.ref _)) _ _ _); k_dflt (refine' r_ne_same ?Q1uXa ?Q1uXb ?Q1uXc ?Q1uXd ?Q1uXe ?Q1uXf ?_; (case Q1uXa => walk_at "S_isl"); (case Q1uXb => walk_at "S_isl"); (case Q1uXc => exact .cons _ _ (.cons _ _ .nil)); (case Q1uXd => assumption); (case Q1uXe => assumption); (case Q1uXf => ke_room))))
  trivial
theorem main14 {w : World} {p loose mean mg mb} {dp un : Nat} {gd : Option (List Code)} {L fa : Addr} {ccd : Value} {outer : List Env} {A₀ : Around} {base g : Heap} {m : PySem.Str → Option Value} {s : Shared} {Q : Flow → Shared → Prop} {E : Value → Shared → Prop} (o5 o6 : Obj) (tl : List (Addr × Obj)) (Dd : Addr) (kd : Nat) (x0 x1 : List Nat) (v0 v1 : Tok) (r0 : ∀ c ∈ x0, R8 c) (r1 : ∀ c ∈ x1, R8 c) (e0 : x0.length ≤ 5) (e1 : x1.length ≤ 5) (ne0 : x0 ≠ []) (ne1 : x1 ≠ []) (fw : Nat) (wr : List Nat → List Nat) (mk f0 f1 f2 : List Nat) (hwr : (fw, wr, mk, f0, f1, f2) ∈ wrT) (G : Addr) (tm u0 u1 u2 : Tok) (d5 : o5.data = .cell (some (.str (S mk) tm))) (d6 : o6.data = .cell (some (.ref G))) (Wd : Addr) (c0 c1 : Tok) (n_drawn : m (PySem.Str.ofString "drawn") = some (.ref Dd)) (n_written : m (PySem.Str.ofString "written") = some (.ref Wd)) 
    (hB : Below A₀ base outer g) (hF : Fr g L s.heap m) (hX : (hd.heap_1 w.params).In g) (hT : Top p loose mean mg mb g) (hr : dp + 30 < recursionLimit) (hu : un + 16 * 30 < cLine) (hC : CodeHd base 109 107) (hN : News g L s.heap ((Wd, listOf [.str (S (wr x0)) c0, .str (S (wr x1)) c1].toArray 2) :: (Dd, listOf [.str (S x0) v0, .str (S x1) v1].toArray kd) :: (G, tupObj [.str (S f0) u0, .str (S f1) u1, .str (S f2) u2]) :: (L + 1 + 1 + 1 + 1 + 1 + 1, o6) :: (L + 1 + 1 + 1 + 1 + 1, o5) :: tl))
    (next : ∀ (h' : Heap) (tk' : Nat), Fr g L h' m → News g L h' ((Wd, listOf [.str (S (wr x0)) c0, .str (S (wr x1)) c1].toArray 2) :: (Dd, listOf [.str (S x0) v0, .str (S x1) v1].toArray kd) :: (G, tupObj [.str (S f0) u0, .str (S f1) u1, .str (S f2) u2]) :: (L + 1 + 1 + 1 + 1 + 1 + 1, o6) :: (L + 1 + 1 + 1 + 1 + 1, o5) :: tl) →
      wpAny (model Challenge.pw_sc0056_02 w) (lawA dp un gd L fa ccd outer) (execs (lawBody.drop 15) (lawEnv L fa ccd)) Q E { s with heap := h', toks := tk' }) :
    wpAny (model Challenge.pw_sc0056_02 w) (lawA dp un gd L fa ccd outer) (execs (lawBody.drop 14) (lawEnv L fa ccd)) Q E s := by
  obtain ⟨hf0, hf1, hf2, hmk⟩ := wr_mk hwr
  have hok := ok8_wr hwr r0 r1
  obtain ⟨hp, gns, dr, tk, os⟩ := s
  conv in (List.drop _ lawBody) => whnf
  (try clear sfl)
  walk1
  ((try clear sfl); have sfl : StopH := trivial)
  k_steps
  refine Stop9.go ?_
  rename Fr _ _ _ _ => F1
  rename News _ _ _ _ => N1
  k_dflt (refine CompSrc.ledger rfl F1 N1 (.tail _ (.head _)) (Nat.le_of_ble_eq_true rfl) fun g' => ?_)
  refine rest_ind (J := fun i ys news => StrsAre ys (([x0, x1].take i).map wr) ∧ news = _) ?step ?fin _ 0 _ _ (Nat.zero_add _) ⟨.nil, rfl⟩
  case step =>
    clear N1 F1
    rintro i v ys news I oI C oC D m2 h2 tk2 E9 hi hP ⟨hJ, rfl⟩ hC2 hx F2 N2 off ne
    have hI : ∃ x vx, v = Value.str (S x) vx ∧ [x0, x1][i]? = some x ∧ x.length ≤ 9 ∧ wr x = x.flatMap (wrL mk f0 f1 f2) := by
      have hi' : i < 2 := hi
      rcases i with _ | _ | i
      · cases hP; exact ⟨_, _, rfl, rfl, by omega, wr_eqB hwr r0⟩
      · cases hP; exact ⟨_, _, rfl, rfl, by omega, wr_eqB hwr r1⟩
      · omega
    obtain ⟨x, vx, rfl, hx5, hx9, hxw⟩ := hI
    dsimp only
    k_steps
    refine Stop9.go (wpAny_call ?_)
    rename Fr _ _ _ _ => F5
    rename News _ _ _ _ => N5
    k_dflt (refine con_written G x mk f0 f1 f2 _ _ u0 u1 u2 hx9 hf0 hf1 hf2 (fun c _ hc => hmk c hc) _ _ _ _ _ _ _ _ _ _ _ _ _ _ ⟨_, _, _, _, _⟩ _ _ hB F5 hX hT ?kk ?kr ?ku hC (news_sub N5 ?s0) fun v post h' tk' F' N' K' R => ?_)
    case s0 => lcg_sub
    case kk => rfl
    case kr => ktr_room
    case ku => ktr_units
    obtain ⟨⟨t9, rfl⟩, rfl⟩ := R
    have No := keep_same N5 (by k_mem) K' N'
    clear N5 F5 N' K'
    dsimp only
    show CompEnd g L m _ I oI C oC D _ _ _ _ _
    refine CompEnd.intro F' No _ ?s1 off ?r1 ⟨?st, rfl⟩
    case s1 => (intro p hp; repeat first | exact hp | apply List.mem_cons_of_mem)
    case r1 => lcg_src
    case st =>
      rw [List.take_add_one, hx5, List.map_append]
      refine hJ.append ?_
      show StrsAre _ [wr x]
      rw [hxw]
      exact .cons _ _ .nil
  case fin =>
    clear N1 F1
    rintro ys news ⟨hJ, rfl⟩
    replace hJ : StrsAre ys [wr x0, wr x1] := hJ
    dsimp only
    k_steps
    refine Stop9.go ?_
    rename Fr _ _ _ _ => F6
    rename News _ _ _ _ => N6
    exact next _ _ F6 (news_sub N6 (by (intro p hp; (repeat (rcases List.mem_cons.mp hp with rfl | hp; · k_mem)); repeat first | exact hp | apply List.mem_cons_of_mem)))
end
section
example : True := by
  k_with "compareOp Eq str str" => ((k_here; k_dflt (refine r_eqS (b := true) (by rfl) ?_)))
  trivial
theorem main16 {w : World} {p loose mean mg mb} {dp un : Nat} {gd : Option (List Code)} {L fa : Addr} {ccd : Value} {outer : List Env} {A₀ : Around} {base g : Heap} {m : PySem.Str → Option Value} {s : Shared} {Q : Flow → Shared → Prop} {E : Value → Shared → Prop} (o8 : Obj) (tl : List (Addr × Obj)) (r : RP) (ok : r.Ok) (kp : Nat) (d8 : o8.data = .cell (some (.ref r.aR))) (ln : Int) (tz : Tok) (lf : List Value) (kl : Nat) (hlf : CharsAre lf []) (ps : Array Value) (h107 : (107, tabObj ps) ∈ tl) (hoff : OffR w r tl)
    (hB : Below A₀ base outer g) (hF : Fr g L s.heap m) (hX : (hd.heap_1 w.params).In g) (hT : Top p loose mean mg mb g) (hr : dp + 30 < recursionLimit) (hu : un + 16 * 30 < cLine) (hC : CodeHd base 109 107) (hN : News g L s.heap ((L + 1 + 1 + 1 + 1 + 1 + 1 + 1 + 1, o8) :: (r.aP, listOf ([] : List Value).toArray kp) :: (r.aR, instObj 59 r.dR) :: (r.dR, dictOf [ent w.params "lineno" r.t1 (.int (ln) tz), ent w.params "instream" r.t2 (.ref r.aS), ent w.params "whitespace" r.t3 (.str wsT r.t4), ent w.params "pushback" r.t5 (.ref r.aP)] 4) :: (rdr7 153 w.params r lf kl ++ tl)))
    (next : Ends g L s Q) :
    wpAny (model Challenge.pw_sc0056_02 w) (lawA dp un gd L fa ccd outer) (execs (lawBody.drop 16) (lawEnv L fa ccd)) Q E s := by
  obtain ⟨hp, gns, dr, tk, os⟩ := s
  conv in (List.drop _ lawBody) => whnf
  (try clear sfl)
  walk1
  ((try clear sfl); have sfl : StopH := trivial)
  k_steps
  refine Stop9.go (wpAny_call ?_)
  rename Fr _ _ _ _ => F5
  rename News _ _ _ _ => N5
  k_dflt (refine con_gt r ok ln tz kp lf kl [] [] [] hlf (by simp) (by simp) (by rfl) _ _ _ _ _ _ _ _ _ _ _ _ _ _ ⟨_, _, _, _, _⟩ _ _ hB F5 hX hT ?kk ?kr ?ku hC (news_sub N5 fun q hq => .tail _ (mem_rd hq)) fun v post h' tk' F' N' K' R => ?_)
  case kk => rfl
  case kr => ktr_room
  case ku => ktr_units
  obtain ⟨t9, ln9, tz9, lf9, kl9, rfl, rfl, hc9, hn9⟩ := R
  have N9 : News g L h' [(107, tabObj ps)] := by
    have := con_own (own := [(107, tabObj ps)]) (news_sub N5 fun q hq => by
      rw [List.mem_singleton.mp hq]
      exact .tail _ (.tail _ (.tail _ (.tail _ (List.mem_append_right _ h107))))) K' N' fun q hq => by
        rw [List.mem_singleton.mp hq]; exact hoff _ h107 _ _ _ _ _ _
    exact news_sub this fun q hq => List.mem_append_left _ hq
  clear N5 F5 N' K'
  dsimp only
  k_steps
  rename Fr _ _ _ _ => F6
  rename News _ _ _ _ => N6
  exact next _ _ _ _ F6 N6
end
section
local macro_rules | `(tactic| walk_at "zz0") => `(tactic| fail)
local macro_rules | `(tactic| walk_at "zz1") => `(tactic| fail)
local macro_rules | `(tactic| walk_at "zz2") => `(tactic| fail)
example : True := by
  k_with "compareOp NotEq ref ref" => ((k_here; (with_reducible show wpAny _ _ (compareOp CmpOp.NotEq (Value.ref _) (Value.ref _)) _ _ _); k_dflt (refine' r_neFs ?Q1wXa ?Q1wXb ?Q1wXc ?Q1wXd ?Q1wXe ?Q1wXf ?Q1wXg ?Q1wXh ?Q1wXi ?Q1wXj ?_; (case Q1wXa => walk_at "S_il"); (case Q1wXb => walk_at "S_il"); (case Q1wXc => assumption); (case Q1wXd => exact FoundAre.nil); (case Q1wXe => (rename News _ _ _ _ => Z1wXa); exact Z1wXa); (case Q1wXf => (intro Z1wXc Z1wXb; (repeat apply List.mem_cons_of_mem); exact hs1 Z1wXc Z1wXb)); (case Q1wXg => (intro Z1wXc Z1wXb; (cases Z1wXb; done))); (case Q1wXh => assumption); (case Q1wXi => assumption); (case Q1wXj => ke_room))))
  trivial
theorem body1 {w : World} {p loose mean mg mb} {dp un : Nat} {gd : Option (List Code)} {L fa : Addr} {ccd : Value} {outer : List Env} {A₀ : Around} {base g : Heap} {m : PySem.Str → Option Value} {s : Shared} {Q : Flow → Shared → Prop} {E : Value → Shared → Prop} (tl : List (Addr × Obj)) (x0 x1 : List Nat) (r : RP) (ok : r.Ok) (kp : Nat) (ln : Int) (tz : Tok) (lf : List Value) (kl : Nat) (o2 o3 o8 : Obj) (la lb : Nat) (ta tb : Tok) (d2 : o2.data = .cell (some (.str (S [la]) ta))) (d3 : o3.data = .cell (some (.str (S [lb]) tb))) (Hh : Addr) (g0 g1 : Tok) (d8 : o8.data = .cell (some (.ref r.aR))) (wd : List Nat) (tw : Tok) (hne : wd ≠ []) (h9 : wd.length ≤ 4) (l0 : (hidL x0).length ≤ 900) (l2 : (hidL x1).length ≤ 900)
    (hoff : OffR w r ((Hh, listOf [.str (S (hidL x0)) g0, .str (S (hidL x1)) g1].toArray 2) :: (L + 1 + 1 + 1 + 1 + 1 + 1 + 1 + 1, o8) :: (L + 1 + 1 + 1, o3) :: (L + 1 + 1, o2) :: tl)) (hsoon : (soonL [la, lb, 92] (hidL x0) (hidL x1) (wd.length - 1)).take 1 = []) (h46 : 46 ∉ [la, lb, 92]) (h128 : ∀ c ∈ [la, lb, 92], c < 128) (n_hidden : m (PySem.Str.ofString "hidden") = some (.ref Hh)) (n_word : m (PySem.Str.ofString "word") = some (.str (S wd) tw)) 
    (hB : Below A₀ base outer g) (hF : Fr g L s.heap m) (hX : (hd.heap_1 w.params).In g) (hT : Top p loose mean mg mb g) (hr : dp + 30 < recursionLimit) (hu : un + 16 * 30 < cLine) (hC : CodeHd base 109 107) (hN : News g L s.heap ((Hh, listOf [.str (S (hidL x0)) g0, .str (S (hidL x1)) g1].toArray 2) :: (L + 1 + 1 + 1 + 1 + 1 + 1 + 1 + 1, o8) :: (L + 1 + 1 + 1, o3) :: (L + 1 + 1, o2) :: (r.aP, listOf ([] : List Value).toArray kp) :: (r.aR, instObj 59 r.dR) :: (r.dR, dictOf [ent w.params "lineno" r.t1 (.int (ln) tz), ent w.params "instream" r.t2 (.ref r.aS), ent w.params "whitespace" r.t3 (.str wsT r.t4), ent w.params "pushback" r.t5 (.ref r.aP)] 4) :: (rdr7 153 w.params r lf kl ++ tl)))
    (next : ∀ (h' : Heap) (tk' : Nat) (kp : Nat), Fr g L h' m → News g L h' ((Hh, listOf [.str (S (hidL x0)) g0, .str (S (hidL x1)) g1].toArray 2) :: (L + 1 + 1 + 1 + 1 + 1 + 1 + 1 + 1, o8) :: (L + 1 + 1 + 1, o3) :: (L + 1 + 1, o2) :: (r.aP, listOf ([] : List Value).toArray kp) :: (r.aR, instObj 59 r.dR) :: (r.dR, dictOf [ent w.params "lineno" r.t1 (.int (ln) tz), ent w.params "instream" r.t2 (.ref r.aS), ent w.params "whitespace" r.t3 (.str wsT r.t4), ent w.params "pushback" r.t5 (.ref r.aP)] 4) :: (rdr7 153 w.params r lf kl ++ tl)) →
      wpAny (model Challenge.pw_sc0056_02 w) (lawA dp un gd L fa ccd outer) (execs (forBody.drop 2) (lawEnv L fa ccd)) Q E { s with heap := h', toks := tk' }) :
    wpAny (model Challenge.pw_sc0056_02 w) (lawA dp un gd L fa ccd outer) (execs (forBody.drop 1) (lawEnv L fa ccd)) Q E s := by
  have hok0 : Ok8F ([] : FD) := fun p hp => by cases hp
  obtain ⟨hp, gns, dr, tk, os⟩ := s
  conv in (List.drop _ forBody) => whnf
  (try clear sfl)
  walk1
  ((try clear sfl); have sfl : StopH := trivial)
  k_steps
  refine Stop9.go (wpAny_call ?_)
  rename Fr _ _ _ _ => F5
  rename News _ _ _ _ => N5
  have emost : ((wd.length : Nat) : Int) - 1 = ((wd.length - 1 : Nat) : Int) := by
    have := List.length_pos_iff.mpr hne
    omega
  rw [emost]
  rw [lit_bs] at N5
  rename (_ ∧ _) => h9l
  obtain ⟨Lt, t9, rfl, rfl⟩ := three_name N5
  have hl1 := allLt_mem (show AllLt Lt ((Hh, listOf [.str (S (hidL x0)) g0, .str (S (hidL x1)) g1].toArray 2) :: (L + 1 + 1 + 1 + 1 + 1 + 1 + 1 + 1, o8) :: (L + 1 + 1 + 1, o3) :: (L + 1 + 1, o2) :: (r.aP, listOf ([] : List Value).toArray kp) :: (r.aR, instObj 59 r.dR) :: (r.dR, dictOf [ent w.params "lineno" r.t1 (.int (ln) tz), ent w.params "instream" r.t2 (.ref r.aS), ent w.params "whitespace" r.t3 (.str wsT r.t4), ent w.params "pushback" r.t5 (.ref r.aP)] 4) :: (rdr7 153 w.params r lf kl ++ tl)) from h9l)
  have hlp : ∀ q ∈ ((Hh, listOf [.str (S (hidL x0)) g0, .str (S (hidL x1)) g1].toArray 2) :: (L + 1 + 1 + 1 + 1 + 1 + 1 + 1 + 1, o8) :: (L + 1 + 1 + 1, o3) :: (L + 1 + 1, o2) :: tl), @LT.lt Nat _ q.1 Lt := fun q hq => hl1 q (by
    repeat (rcases List.mem_cons.mp hq with rfl | hq; · k_mem)
    iterate 7 apply List.mem_cons_of_mem
    exact List.mem_append_right _ hq)
  clear h9l
  k_dflt (refine con_soon r ok ln tz kp lf kl [la, lb, 92] Lt ([Value.str (S [la]) ta, .str (S [lb]) tb, .str (S [92]) t9]) 0 (.cons _ _ (.cons _ _ (.cons _ _ .nil))) (hidL x0) (hidL x1) (wd.length - 1) _ _ _ ?hl9 (by omega) (by omega) (by omega) h46 h128 (hl1 (r.aP, _) (by k_mem)) _ _ _ _ _ _ _ _ _ _ _ _ _ _ ⟨_, _, _, _, _⟩ _ _ hB F5 hX hT ?kk ?kr ?ku hC (news_sub N5 ?s0) fun v post h' tk' F' N' K' R => ?_)
  case hl9 => first | assumption | (simp; done)
  case kk => rfl
  case kr => ktr_room
  case ku => ktr_units
  case s0 =>
    intro q hq
    rcases List.mem_append.mp hq with hq | hq
    · iterate 5 apply List.mem_cons_of_mem
      exact mem_rd hq
    · rw [List.mem_singleton.mp hq]; exact .head _
  obtain ⟨D, k, kp', fv, tls, rfl, hfv, rfl⟩ := R
  have No : News g L h' (((Hh, listOf [.str (S (hidL x0)) g0, .str (S (hidL x1)) g1].toArray 2) :: (L + 1 + 1 + 1 + 1 + 1 + 1 + 1 + 1, o8) :: (L + 1 + 1 + 1, o3) :: (L + 1 + 1, o2) :: tl) ++ ((D, listOf fv.toArray k) :: (rdr 153 w.params r (ln) tz [] kp' lf kl ++ (Lt, listOf ([Value.str (S [la]) ta, .str (S [lb]) tb, .str (S [92]) t9]).toArray 0) :: tls))) := by
    refine con_own (news_sub N5 ?s1) K' N' ?s2
    case s1 =>
      intro q hq
      repeat (rcases List.mem_cons.mp hq with rfl | hq; · k_mem)
      iterate 8 apply List.mem_cons_of_mem
      exact List.mem_append_right _ hq
    case s2 =>
      intro p hp hm
      rw [List.map_append] at hm
      rcases List.mem_append.mp hm with hm | hm
      · exact hoff p hp _ _ _ _ _ _ hm
      · rw [List.map_cons, List.map_nil] at hm
        exact absurd (List.mem_singleton.mp hm) (Nat.ne_of_lt (hlp p hp))
  have NF : News g L h' ((D, listOf fv.toArray k) :: ((Lt, listOf ([Value.str (S [la]) ta, .str (S [lb]) tb, .str (S [92]) t9]).toArray 0) :: (Hh, listOf [.str (S (hidL x0)) g0, .str (S (hidL x1)) g1].toArray 2) :: (L + 1 + 1 + 1 + 1 + 1 + 1 + 1 + 1, o8) :: (L + 1 + 1 + 1, o3) :: (L + 1 + 1, o2) :: (r.aP, listOf ([] : List Value).toArray kp') :: (r.aR, instObj 59 r.dR) :: (r.dR, dictOf [ent w.params "lineno" r.t1 (.int (ln) tz), ent w.params "instream" r.t2 (.ref r.aS), ent w.params "whitespace" r.t3 (.str wsT r.t4), ent w.params "pushback" r.t5 (.ref r.aP)] 4) :: (rdr7 153 w.params r lf kl ++ (tls ++ tl)))) := news_soon4 (X := [(Hh, listOf [.str (S (hidL x0)) g0, .str (S (hidL x1)) g1].toArray 2), (L + 1 + 1 + 1 + 1 + 1 + 1 + 1 + 1, o8), (L + 1 + 1 + 1, o3), (L + 1 + 1, o2)]) No
  have hs1 : ∀ q ∈ tls, q ∈ rdr7 153 w.params r lf kl ++ (tls ++ tl) := fun q hq => List.mem_append_right _ (List.mem_append_left _ hq)
  clear N5 F5 N' K' No hl1 hlp
  generalize hTL : rdr7 153 w.params r lf kl ++ (tls ++ tl) = TL at NF hs1
  dsimp only
  k_steps
  refine Stop9.go ?_
  rename Fr _ _ _ _ => F6
  rename News _ _ _ _ => N6
  refine next _ _ kp' F6 (news_sub N6 ?sz)
  case sz =>
    intro q hq
    repeat (rcases List.mem_cons.mp hq with rfl | hq; · k_mem)
    rw [← hTL]
    iterate 10 apply List.mem_cons_of_mem
    rcases List.mem_append.mp hq with hq | hq
    · exact List.mem_append_left _ hq
    · exact List.mem_append_right _ (List.mem_append_right _ hq)
end
section
theorem body4 {w : World} {p loose mean mg mb} {dp un : Nat} {gd : Option (List Code)} {L fa : Addr} {ccd : Value} {outer : List Env} {A₀ : Around} {base g : Heap} {m : PySem.Str → Option Value} {s : Shared} {Q : Flow → Shared → Prop} {E : Value → Shared → Prop} (tl : List (Addr × Obj)) (x0 x1 : List Nat) (r : RP) (ok : r.Ok) (kp : Nat) (ln : Int) (tz : Tok) (lf : List Value) (kl : Nat) (o8 : Obj) (Wd : Addr) (c0 c1 : Tok) (wr : List Nat → List Nat) (Ls : Addr) (lv : List Value) (lk : Nat) (ls : List Nat) (hls : CharsAre lv ls) (h12 : ls.length ≤ 12) (hLs : @LT.lt Nat _ r.aP Ls) (hapart : ∀ p ∈ ((Wd, listOf [.str (S (wr x0)) c0, .str (S (wr x1)) c1].toArray 2) :: (L + 1 + 1 + 1 + 1 + 1 + 1 + 1 + 1, o8) :: tl), @Ne Nat p.1 Ls) (d8 : o8.data = .cell (some (.ref r.aR))) (wd : List Nat) (tw : Tok) (hne : wd ≠ []) (h9 : wd.length ≤ 4) (l0 : (wr x0).length ≤ 900) (l2 : (wr x1).length ≤ 900)
    (hoff : OffR w r ((Wd, listOf [.str (S (wr x0)) c0, .str (S (wr x1)) c1].toArray 2) :: (L + 1 + 1 + 1 + 1 + 1 + 1 + 1 + 1, o8) :: tl)) (hsoon : (soonL ls (wr x0) (wr x1) (wd.length - 1)).take 1 = []) (h46 : 46 ∉ ls) (h128 : ∀ c ∈ ls, c < 128) (n_written : m (PySem.Str.ofString "written") = some (.ref Wd)) (n_letters : m (PySem.Str.ofString "letters") = some (.ref Ls)) (n_word : m (PySem.Str.ofString "word") = some (.str (S wd) tw)) 
    (hB : Below A₀ base outer g) (hF : Fr g L s.heap m) (hX : (hd.heap_1 w.params).In g) (hT : Top p loose mean mg mb g) (hr : dp + 30 < recursionLimit) (hu : un + 16 * 30 < cLine) (hC : CodeHd base 109 107) (hN : News g L s.heap ((Ls, listOf lv.toArray lk) :: (Wd, listOf [.str (S (wr x0)) c0, .str (S (wr x1)) c1].toArray 2) :: (L + 1 + 1 + 1 + 1 + 1 + 1 + 1 + 1, o8) :: (r.aP, listOf ([] : List Value).toArray kp) :: (r.aR, instObj 59 r.dR) :: (r.dR, dictOf [ent w.params "lineno" r.t1 (.int (ln) tz), ent w.params "instream" r.t2 (.ref r.aS), ent w.params "whitespace" r.t3 (.str wsT r.t4), ent w.params "pushback" r.t5 (.ref r.aP)] 4) :: (rdr7 153 w.params r lf kl ++ tl)))
    (next : ∀ (h' : Heap) (tk' : Nat) (kp : Nat), Fr g L h' m → News g L h' ((Ls, listOf lv.toArray lk) :: (Wd, listOf [.str (S (wr x0)) c0, .str (S (wr x1)) c1].toArray 2) :: (L + 1 + 1 + 1 + 1 + 1 + 1 + 1 + 1, o8) :: (r.aP, listOf ([] : List Value).toArray kp) :: (r.aR, instObj 59 r.dR) :: (r.dR, dictOf [ent w.params "lineno" r.t1 (.int (ln) tz), ent w.params "instream" r.t2 (.ref r.aS), ent w.params "whitespace" r.t3 (.str wsT r.t4), ent w.params "pushback" r.t5 (.ref r.aP)] 4) :: (rdr7 153 w.params r lf kl ++ tl)) →
      wpAny (model Challenge.pw_sc0056_02 w) (lawA dp un gd L fa ccd outer) (execs (forBody.drop 5) (lawEnv L fa ccd)) Q E { s with heap := h', toks := tk' }) :
    wpAny (model Challenge.pw_sc0056_02 w) (lawA dp un gd L fa ccd outer) (execs (forBody.drop 4) (lawEnv L fa ccd)) Q E s := by
  have hok0 : Ok8F ([] : FD) := fun p hp => by cases hp
  obtain ⟨hp, gns, dr, tk, os⟩ := s
  conv in (List.drop _ forBody) => whnf
  (try clear sfl)
  walk1
  ((try clear sfl); have sfl : StopH := trivial)
  k_steps
  refine Stop9.go (wpAny_call ?_)
  rename Fr _ _ _ _ => F5
  rename News _ _ _ _ => N5
  have emost : ((wd.length : Nat) : Int) - 1 = ((wd.length - 1 : Nat) : Int) := by
    have := List.length_pos_iff.mpr hne
    omega
  rw [emost]
  k_dflt (refine con_soon r ok ln tz kp lf kl ls Ls (lv) lk hls (wr x0) (wr x1) (wd.length - 1) _ _ _ ?hl9 (by omega) (by omega) (by omega) h46 h128 hLs _ _ _ _ _ _ _ _ _ _ _ _ _ _ ⟨_, _, _, _, _⟩ _ _ hB F5 hX hT ?kk ?kr ?ku hC (news_sub N5 ?s0) fun v post h' tk' F' N' K' R => ?_)
  case hl9 => first | assumption | (simp; done)
  case kk => rfl
  case kr => ktr_room
  case ku => ktr_units
  case s0 =>
    intro q hq
    rcases List.mem_append.mp hq with hq | hq
    · iterate 3 apply List.mem_cons_of_mem
      exact mem_rd hq
    · rw [List.mem_singleton.mp hq]; exact .head _
  obtain ⟨D, k, kp', fv, tls, rfl, hfv, rfl⟩ := R
  have No : News g L h' (((Wd, listOf [.str (S (wr x0)) c0, .str (S (wr x1)) c1].toArray 2) :: (L + 1 + 1 + 1 + 1 + 1 + 1 + 1 + 1, o8) :: tl) ++ ((D, listOf fv.toArray k) :: (rdr 153 w.params r (ln) tz [] kp' lf kl ++ (Ls, listOf (lv).toArray lk) :: tls))) := by
    refine con_own (news_sub N5 ?s1) K' N' ?s2
    case s1 =>
      intro q hq
      repeat (rcases List.mem_cons.mp hq with rfl | hq; · k_mem)
      iterate 6 apply List.mem_cons_of_mem
      exact List.mem_append_right _ hq
    case s2 =>
      intro p hp hm
      rw [List.map_append] at hm
      rcases List.mem_append.mp hm with hm | hm
      · exact hoff p hp _ _ _ _ _ _ hm
      · rw [List.map_cons, List.map_nil] at hm
        exact absurd (List.mem_singleton.mp hm) (hapart p hp)
  have NF : News g L h' ((D, listOf fv.toArray k) :: ((Ls, listOf (lv).toArray lk) :: (Wd, listOf [.str (S (wr x0)) c0, .str (S (wr x1)) c1].toArray 2) :: (L + 1 + 1 + 1 + 1 + 1 + 1 + 1 + 1, o8) :: (r.aP, listOf ([] : List Value).toArray kp') :: (r.aR, instObj 59 r.dR) :: (r.dR, dictOf [ent w.params "lineno" r.t1 (.int (ln) tz), ent w.params "instream" r.t2 (.ref r.aS), ent w.params "whitespace" r.t3 (.str wsT r.t4), ent w.params "pushback" r.t5 (.ref r.aP)] 4) :: (rdr7 153 w.params r lf kl ++ (tls ++ tl)))) := news_soon4 (X := [(Wd, listOf [.str (S (wr x0)) c0, .str (S (wr x1)) c1].toArray 2), (L + 1 + 1 + 1 + 1 + 1 + 1 + 1 + 1, o8)]) No
  have hs1 : ∀ q ∈ tls, q ∈ rdr7 153 w.params r lf kl ++ (tls ++ tl) := fun q hq => List.mem_append_right _ (List.mem_append_left _ hq)
  clear N5 F5 N' K' No
  generalize hTL : rdr7 153 w.params r lf kl ++ (tls ++ tl) = TL at NF hs1
  dsimp only
  k_steps
  refine Stop9.go ?_
  rename Fr _ _ _ _ => F6
  rename News _ _ _ _ => N6
  refine next _ _ kp' F6 (news_sub N6 ?sz)
  case sz =>
    intro q hq
    repeat (rcases List.mem_cons.mp hq with rfl | hq; · k_mem)
    rw [← hTL]
    iterate 8 apply List.mem_cons_of_mem
    rcases List.mem_append.mp hq with hq | hq
    · exact List.mem_append_left _ hq
    · exact List.mem_append_right _ (List.mem_append_right _ hq)
end
section
local macro_rules | `(tactic| walk_at "zz0") => `(tactic| fail)
local macro_rules | `(tactic| walk_at "zz1") => `(tactic| fail)
local macro_rules | `(tactic| walk_at "zz2") => `(tactic| fail)
example : True := by
  k_with_none
  w_top off
  k_with "olt" => (first | assumption | ((fail_if_success refine oM ?_); refine oL ?_; k_extra "ole") | k_extra "olh")
  k_with "olh" => (refine oH (by assumption) (by k_extra "ole"))
  k_with "ole" => (first | exact Nat.le_refl _ | assumption | exact oB | ((first | refine oA ?_ | refine oA2 ?_ | refine oA3 ?_); k_extra "ocl") | (refine oS ?_; k_extra "ole") | (refine Nat.le_of_lt ?_; (first | assumption | k_extra "olh")) | exact oE)
  k_with "olt2" => (first | k_extra "oas" | ((fail_if_success refine oM ?_); refine oL ?_; k_extra "ole2") | k_extra "olh2")
  k_with "olh2" => (refine oH (by k_extra "oas") (by k_extra "ole2"))
  k_with "ole2" => (first | exact Nat.le_refl _ | k_extra "oas" | exact oB | ((first | refine oA ?_ | refine oA2 ?_ | refine oA3 ?_); k_extra "ocl") | (refine oS ?_; k_extra "ole2") | (refine Nat.le_of_lt ?_; (first | k_extra "oas" | k_extra "olh2")) | exact oE)
  k_with "opu" => (first | exact oB | exact Nat.le_refl _ | (refine oS ?_; k_extra "opu"))
  k_with "olt0" => (refine oL ?_; k_extra "opu")
  k_with "one" => (first | (refine Nat.ne_of_gt ?_; (fail_if_success refine oM ?_); k_extra "olt0") | (refine Nat.ne_of_lt ?_; (fail_if_success refine oM ?_); k_extra "olt0") | exact Ne.symm (by assumption) | (refine Nat.ne_of_gt ?_; (fail_if_success refine oM ?_); k_extra "oas") | (refine Nat.ne_of_lt ?_; (fail_if_success refine oM ?_); k_extra "oas") | (refine Nat.ne_of_gt ?_; (fail_if_success refine oM ?_); k_extra "odd") | (refine Nat.ne_of_lt ?_; (fail_if_success refine oM ?_); k_extra "odd") | (refine Nat.ne_of_gt ?_; (fail_if_success refine oM ?_); k_extra "olt") | (refine Nat.ne_of_lt ?_; (fail_if_success refine oM ?_); k_extra "olt") | (refine Nat.ne_of_gt ?_; (fail_if_success refine oM ?_); k_extra "olt2") | (refine Nat.ne_of_lt ?_; (fail_if_success refine oM ?_); k_extra "olt2") | decide)
  k_with "ol1" => (first | ((fail_if_success refine oM ?_); first | k_extra "oas" | k_extra "olt0" | k_extra "odd" | k_extra "olt" | k_extra "olt2") | k_extra "ocl" | exact oT0 | exact oT5)
  k_with "oe1" => (first | ((fail_if_success refine oN ?_); first | k_extra "oas" | k_extra "opu" | k_extra "ole" | k_extra "ole2" | exact oE (by k_extra "oas")) | k_extra "ocl" | k_extra "olit" | k_extra "oas")
  k_with "olit" => (first | exact oT4 | exact oP | exact oP2 | exact oT1 | exact oT2 | exact oT3 | exact oQ5 | exact oQ1 | exact oQ2 | exact oQ3 | exact oQ4 | exact oQ6 | exact oD)
  k_with "ocl" => (with_unfolding_all exact Nat.le_of_ble_eq_true rfl)
  k_with "oas" => (first | assumption | exact oa1 | exact ob1 | exact oa2 | exact ob2 | exact oa3 | exact ob3 | exact oa4 | exact ob4 | exact oa5 | exact ob5 | exact oa6 | exact ob6 | exact oa7 | exact ob7)
  k_with "odd" => (first | exact oa1 ob7 | exact oa2 ob7 | exact oa3 ob7 | exact oa4 ob7 | exact oa5 ob7 | exact oa6 ob7 | exact oa7 ob7 | exact oa1 (ob7 ob7) | exact oa2 (ob7 ob7) | exact oa3 (ob7 ob7) | exact oa4 (ob7 ob7) | exact oa5 (ob7 ob7) | exact oa6 (ob7 ob7) | exact oa7 (ob7 ob7) | exact ob1 ob7 | exact ob2 ob7 | exact ob3 ob7 | exact ob4 ob7 | exact ob5 ob7 | exact ob6 ob7 | exact ob7 ob7)
  k_with "oin" => (first | decide | exact oI1 | exact oI3 | exact oI2 (by k_extra "oas"))
  k_with "om" => (with_reducible first | (first | assumption | ((fail_if_success fail_if_success refine oXn ?_); k_extra "one") | ((fail_if_success fail_if_success refine oXl ?_); k_extra "ol1") | ((fail_if_success fail_if_success refine oXe ?_); k_extra "oe1") | k_extra "oin") | fail)
  k_with "S_fit" => (first | omega | ((simp only [S_len, List.length_append, List.length_cons, List.length_nil, List.length_take, List.length_drop, dots, PySem.sizeLine_eq]); omega))
  k_with "call builtin:len" => (((with_reducible show wpAny _ _ (call (Value.builtin "len") [Value.str (S _) _]) _ _ _); refine r_len (by walk_at "S_fit") ?_))
  k_with "call builtin:str.startswith" => (((with_reducible show wpAny _ _ (call (Value.builtin "str.startswith") [Value.str (S _) _, Value.str (S _) _]) _ _ _); refine r_starts ?_))
  k_with "call builtin:str.endswith" => (((with_reducible show wpAny _ _ (call (Value.builtin "str.endswith") [Value.str (S _) _, Value.str (S _) _]) _ _ _); refine r_ends ?_))
  k_with "truthy str" => (((with_reducible show wpAny _ _ (truthy (Value.str (S _) _)) _ _ _); refine r_truthy (by walk_at "S_fit") ?_))
  k_with "exec For Name Name cons nil" => ((k_here; (rename Fr _ _ _ _ => Z6Xa); (with_unfolding_all refine' For_invVF Z6Xa ?Q6Xa ?Q6Xb ?_; (case Q6Xa => exact rfl); (case Q6Xb => exact rfl); k_whole)))
  k_with "pyIter ref" => (((with_reducible show wpAny _ _ (pyIter (Value.ref _)) (fun it s₂ => LoopAtV _ _ _ _ _ _ _ _ _ it s₂) _ _); k_listUnr))
  k_with "S_enter" => ((refine' code_defG (news := []) ?Q8Xa ?Q8Xb ?Q8Xc ?Q8Xd ?Q8Xe ?Q8Xf ?Q8Xg ?Q8Xh ?Q8Xi ?Q8Xj ?Q8Xk ?Q8Xl ?Q8Xm ?_ ?Q8Xn ?Q8Xo ?Q8Xp ?Q8Xq; (case Q8Xf => exact rfl); (case Q8Xg => exact rfl); (case Q8Xh => assumption); (case Q8Xa => k_asm); (case Q8Xb => k_asm); (case Q8Xc => k_asm); (case Q8Xd => exact News.nil); (case Q8Xe => k_asm); (case Q8Xi => k_is); (case Q8Xj => k_is); (case Q8Xk => ktr_room); (case Q8Xl => exact BindsTo.of_eq rfl); (case Q8Xq => decide); (case Q8Xm => exact locs rfl); (case Q8Xn => exact rfl); (case Q8Xo => exact rfl); (case Q8Xp => exact rfl); k_whole; intro Z8Xh Z8Xd Z8Xi Z8Xc Z8Xb Z8Xe Z8Xa Z8Xg Z8Xf Z8Xj; (try dsimp only [List.map_nil] at Z8Xj); (try dsimp only); (try k_lift Z8Xa); (try k_fold)))
  k_with "S_look" => (first | exact rfl | assumption | exact (if_pos rfl) | (refine (if_neg (by decide)).trans ?_; walk_at "S_look"))
  k_with "eval Name" => ((k_here; k_dflt (refine' nameX_L ?QaXa ?QaXb ?_ ?QaXc ?QaXd; (case QaXa => k_asm); (case QaXc => rfl); (case QaXd => rfl); (case QaXb => walk_at "S_look"); k_whole)))
  k_with "S_lit" => (first | (with_reducible exact lit_dots) | (with_reducible rfl))
  k_with "S_nn" => (first | omega | ((simp only [List.length_append, List.length_cons, List.length_nil, List.length_take, List.length_drop, dots] at *); omega))
  k_with "binaryOp Add str str" => (((with_reducible show wpAny _ _ (binaryOp _ (Value.str _ _) (Value.str _ _)) _ _ _); k_dflt (refine r_add (by walk_at "S_lit") (by walk_at "S_lit") (by walk_at "S_fit") ?_); intro _ _))
  k_with "subscriptTail Name Slice str ref" => (((with_reducible show wpAny _ _ (subscriptTail _ (Expr.Slice none (some _) none _) (Value.str (S _) _) _) _ _ _); (with_reducible rename Fr _ _ _ _ => ZeXa); (with_reducible rename News _ _ _ _ => ZeXb); (refine r_sliceTo (s := ⟨_, _, _, _, _⟩) ZeXa ZeXb (by walk_at "S_nn") (by walk_at "S_fit") ?_); intro _ _ _ _ _))
  k_with "subscriptTail Name Slice str ref" => (((with_reducible show wpAny _ _ (subscriptTail _ (Expr.Slice (some _) none none _) (Value.str (S _) _) _) _ _ _); (with_reducible rename Fr _ _ _ _ => ZfXa); (with_reducible rename News _ _ _ _ => ZfXb); (refine r_sliceFrom (s := ⟨_, _, _, _, _⟩) ZfXa ZfXb (by walk_at "S_nn") (by walk_at "S_fit") ?_); intro _ _ _ _ _))
  k_with "exec For Name Call cons nil" => ((k_here; (rename Fr _ _ _ _ => ZgXa); (with_unfolding_all refine' For_invVF ZgXa ?QgXa ?QgXb ?_; (case QgXa => exact rfl); (case QgXb => exact rfl); k_whole)))
  k_with "S_use" => ((refine' pcon_use ?QhXa ?QhXb ?QhXc ?QhXd ?QhXe ?QhXf ?QhXg ?QhXh ?_; (case QhXb => k_asm); (case QhXc => k_asm); (case QhXd => k_asm); (case QhXe => k_asm); (case QhXa => walk_at "S_con"); (case QhXf => first | exact rfl | assumption); (case QhXg => ktr_room); (case QhXh => ktr_units)))
  k_with "call ref" => ((k_here; k_dflt (walk_at "S_use"); intro ZiXf ZiXd ZiXe ZiXb; (have ZiXa := Fr.keeps (by k_asm) ZiXb); (have ZiXc := News.grown (by k_asm) ZiXb); walk_at "S_back" <;> ((try dsimp only); (try k_fold))))
  k_with "pyIter ref" => (k_extra "S_loop")
  k_with "S_bool" => ((intro ZkXa; (rcases bool_or ZkXa with ⟨R8, R7⟩ | ⟨R8, R7⟩) <;> subst R7))
  k_with "call builtin:list.append" => ((k_here; (with_reducible show wpAny _ _ (call (Value.builtin _) [Value.ref _, _]) _ _ _); k_dflt (refine' append_K ?QlXa ?QlXb ?QlXc ?_ ?QlXd; (case QlXa => k_asm); (case QlXb => k_asm); (case QlXc => k_upd); (case QlXd => exact size_ok (k := 100000) (by omega) (by decide)); k_whole); intro ZlXc ZlXa ZlXb; (try k_sweep)))
  k_with "m_k_room" => (ktr_room)
  k_with "m_k_units" => (ktr_units)
  k_with "S_enterM" => ((refine' code_defG ?QoXa ?QoXb ?QoXc ?QoXd ?QoXe ?QoXf ?QoXg ?QoXh ?QoXi ?QoXj ?QoXk ?QoXl ?QoXm ?_ ?QoXn ?QoXo ?QoXp ?QoXq; (case QoXf => exact rfl); (case QoXg => exact rfl); (case QoXh => assumption); (case QoXa => k_asm); (case QoXb => k_asm); (case QoXc => k_asm); (case QoXd => k_asm); (case QoXe => k_asm); (case QoXi => k_is); (case QoXj => k_is); (case QoXk => ktr_room); (case QoXl => exact BindsTo.of_eq rfl); (case QoXq => decide); (case QoXm => exact locs rfl); (case QoXn => exact rfl); (case QoXo => exact rfl); (case QoXp => exact rfl); k_whole; intro ZoXh ZoXd ZoXi ZoXc ZoXb ZoXe ZoXa ZoXg ZoXf ZoXj; (try dsimp only [List.map_nil, List.map_cons] at ZoXj); (try dsimp only); (try k_lift ZoXa); (try k_fold)))
  k_with "callWith" => (((with_reducible show wpAny _ _ (callWith _ (Prod.fst _) (Prod.snd _) _ _) _ _ _); dsimp only))
  k_with "S_int" => (first | omega | decide | ((simp only [List.length_cons, List.length_nil, decide_eq_true_eq, decide_eq_false_iff_not, beq_iff_eq, beq_eq_false_iff_ne, ne_eq, Int.not_lt, Int.not_le] at *); omega))
  k_with "binaryOp FloorDiv int int" => (((with_reducible show wpAny _ _ (binaryOp _ (Value.int _ _) (Value.int _ _)) _ _ _); k_dflt (refine r_fdiv (by walk_at "S_int") (by walk_at "S_int") ?_); intro _ _))
  k_with "binaryOp Mod int int" => (((with_reducible show wpAny _ _ (binaryOp _ (Value.int _ _) (Value.int _ _)) _ _ _); k_dflt (refine r_fmod (by walk_at "S_int") ?_); intro _ _))
  k_with "S_item" => (((with_reducible show wpAny _ _ (subscriptTail _ _ (Value.str (S _) _) (Value.int _ _)) _ _ _); k_dflt (refine r_item (by walk_at "S_int") (by walk_at "S_int") (by walk_at "S_fit") ?_); intro _ _))
  k_with "subscriptTail Name BinOp str int" => (walk_at "S_item")
  k_with "subscriptTail Name Constant str int" => (walk_at "S_item")
  k_with "subscriptTail Name Name str int" => (walk_at "S_item")
  k_with "S_lit" => (first | (with_reducible exact lit_dots) | (with_reducible exact lit_empty) | (with_reducible exact lit34) | (with_reducible exact lit9234) | (with_reducible exact lit92) | (with_reducible exact lit10) | (with_reducible exact lit38) | (with_reducible exact lit59) | (with_reducible rfl))
  k_with "call builtin:str.replace" => (((with_reducible show wpAny _ _ (call (Value.builtin _) [Value.str (S _) _, Value.str _ _, Value.str _ _]) _ _ _); k_dflt (refine r_replace (by walk_at "S_lit") (by walk_at "S_lit") (by decide) (Nat.succ_ne_zero _) (Nat.succ_ne_zero _) (Nat.ne_of_lt (Nat.lt_succ_self _)) (by decide) (by walk_at "S_nn") ?_); intro _ _))
  k_with "call builtin:str.join" => ((k_here; (with_reducible show wpAny _ _ (call (Value.builtin _) [Value.str _ _, Value.ref _]) _ _ _); k_dflt (refine r_join (by walk_at "S_lit") (by walk_at "S_isl") (by walk_at "S_strs") (by walk_at "S_sum") ?_); intro _ _))
  k_with "S_isl" => (first | assumption | exact ⟨LCg.lst _, News.get (by k_asm) (by k_mem), rfl, _, rfl⟩ | is_list)
  k_with "S_strs" => (first | exact StrsAre.nil | assumption | (exact CharsAre.strs (by assumption)))
  k_with "binaryOp Mult str int" => (((with_reducible show wpAny _ _ (binaryOp _ (Value.str (S _) _) (Value.int _ _)) _ _ _); k_dflt (refine r_mul (by walk_at "S_int") (by walk_at "S_int") (by walk_at "S_nn") ?_); intro _ _))
  k_with "S_enterC" => ((refine' code_defCG ?Q13Xa ?Q13Xb ?Q13Xc ?Q13Xd ?Q13Xe ?Q13Xf ?Q13Xg ?Q13Xh ?Q13Xi ?Q13Xj ?Q13Xk ?Q13Xl ?Q13Xm ?Q13Xn ?_ ?Q13Xo ?Q13Xp ?Q13Xq; (case Q13Xf => exact rfl); (case Q13Xg => exact rfl); (case Q13Xh => assumption); (case Q13Xa => k_asm); (case Q13Xb => k_asm); (case Q13Xc => k_asm); (case Q13Xd => k_asm); (case Q13Xe => k_asm); (case Q13Xi => k_is); (case Q13Xj => k_is); (case Q13Xk => ktr_room); (case Q13Xl => exact BindsTo.of_eq rfl); (case Q13Xm => rfl); (case Q13Xn => decide); (case Q13Xo => exact rfl); (case Q13Xp => exact rfl); (case Q13Xq => exact rfl); k_whole; intro Z13Xj Z13Xd Z13Xk Z13Xo Z13Xi Z13Xc Z13Xb Z13Xe Z13Xh Z13Xa Z13Xg Z13Xf Z13Xm Z13Xl Z13Xn; (try dsimp only [List.map_nil, List.map_cons] at Z13Xl); (try k_lt Z13Xm); k_cells Z13Xh; (try simp only [List.cons_append, List.nil_append] at Z13Xe); (try dsimp only); (try k_lift Z13Xa); (try k_fold)))
  k_with "S_lcs" => ((k_here; k_dflt (refine ListComp_S (_F₀ := by k_asm) (by rfl) (by decide) (by rfl) (by decide) (by rfl) ?_)))
  k_with "S_lit" => (first | (with_reducible exact lit_dots) | (with_reducible exact lit_empty) | (with_reducible exact lit34) | (with_reducible exact lit9234) | (with_reducible exact lit92) | (with_reducible exact lit10) | (with_reducible exact lit38) | (with_reducible exact lit59) | (with_reducible exact lit60) | (with_reducible exact lit62) | (with_reducible exact lit13) | (with_reducible exact lit9) | (with_reducible exact litamp) | (with_reducible exact litlt) | (with_reducible exact litgt) | (with_reducible exact litquot) | (with_reducible rfl))
  k_with "S_sum" => (assumption)
  k_with "eval ListComp" => ((k_here; (with_reducible show wpAny _ _ (eval (PySem.Expr.ListComp _ [⟨PySem.Expr.Tuple _ _ _, _, [], 0⟩] _ _) _) _ _ _); k_dflt (refine ListComp_E (_F₀ := by k_asm) (by rfl) (by decide) (by rfl) (by decide) (by rfl) (by rfl) (by decide) ?_)))
  k_with "eval ListComp" => ((k_here; (with_reducible show wpAny _ _ (eval (PySem.Expr.ListComp _ [⟨PySem.Expr.Name _ _, _, [], 0⟩] _ _) _) _ _ _); k_dflt (refine LCg.ListComp_U (F₀ := by k_asm) (by rfl) (by decide) (by rfl) (by decide) (by rfl) ?_)))
  k_with "call type:enumerate" => (refine stop9 ?_)
  k_with "exec Assign cons ListComp" => ((k_here; k_dflt (refine wpAny_Assign_Name ?_ (by rfl))))
  k_with "CompSrc" => (refine stop9 ?_)
  k_with "CompEnd" => (refine stop9 ?_)
  k_with "FinE" => (((unfold LCg.FinE); intro Z1dXa Z1dXd Z1dXf Z1dXb Z1dXc Z1dXe; (try simp only [List.nil_append, List.cons_append] at Z1dXc); (try dsimp only)))
  k_with "FinA" => (((unfold LCg.FinA); intro Z1eXa Z1eXd Z1eXf Z1eXb Z1eXc Z1eXe; (try simp only [List.nil_append, List.cons_append] at Z1eXc); (try dsimp only)))
  k_with "m_k_ne" => (first | (refine neN ?_; (try dsimp only); omega) | exact off1_ne (by assumption) (by k_mem) | exact Ne.symm (off1_ne (by assumption) (by k_mem)))
  k_with "eval ListComp" => ((k_here; (with_reducible show wpAny _ _ (eval (PySem.Expr.ListComp _ [⟨PySem.Expr.Name _ _, _, [_], 0⟩] _ _) _) _ _ _); k_dflt (refine LCt.ListComp_T (F₀ := by k_asm) (by rfl) (by decide) (by rfl) (by decide) (by rfl) ?_)))
  k_with "CompSrcT" => (refine stop9 ?_)
  k_with "S_laps" => ((intro Z1iXf; obtain ⟨Z1iXa, Z1iXj, Z1iXi, Z1iXh, Z1iXc, Z1iXd, Z1iXe⟩ := Z1iXf; subst Z1iXh; (obtain ⟨Z1iXb, Z1iXg⟩ := news_add (by k_asm) (by k_asm) (by k_asm) Z1iXc Z1iXd)))
  k_with "S_il" => (((rename News _ _ _ _ => Z1jXa); exact ⟨_, News.get Z1jXa (by k_mem), rfl, _, rfl⟩))
  k_with "execs cons" => (((have _sf : StopH := by assumption); clear _sf; refine stop9 ?_))
  k_with "S_back" => (intro Z1lXb; obtain ⟨Z1lXc, Z1lXa⟩ := Z1lXb; subst Z1lXa)
  k_with "S_con" => (exact con_hidden _ _ (by assumption))
  trivial
theorem main7 {w : World} {p loose mean mg mb} {dp un : Nat} {gd : Option (List Code)} {L fa : Addr} {ccd : Value} {outer : List Env} {A₀ : Around} {base g : Heap} {m : PySem.Str → Option Value} {s : Shared} {Q : Flow → Shared → Prop} {E : Value → Shared → Prop} (tl : List (Addr × Obj)) (Dd : Addr) (kd : Nat) (x0 x1 : List Nat) (v0 v1 : Tok) (e0 : x0.length ≤ 5) (e1 : x1.length ≤ 5) (n_drawn : m (PySem.Str.ofString "drawn") = some (.ref Dd)) 
    (hB : Below A₀ base outer g) (hF : Fr g L s.heap m) (hX : (hd.heap_1 w.params).In g) (hT : Top p loose mean mg mb g) (hr : dp + 30 < recursionLimit) (hu : un + 16 * 30 < cLine) (hC : CodeHd base 109 107) (hN : News g L s.heap ((Dd, listOf [.str (S x0) v0, .str (S x1) v1].toArray kd) :: tl))
    (next : ∀ (h' : Heap) (tk' : Nat) (m' : PySem.Str → Option Value) (tp : Tok), m' = (fun y => if y = (PySem.Str.ofString "page") then some (.str (S (pageB x0 x1)) tp) else m y) → Fr g L h' m' → News g L h' ((Dd, listOf [.str (S x0) v0, .str (S x1) v1].toArray kd) :: tl) →
      wpAny (model Challenge.pw_sc0056_02 w) (lawA dp un gd L fa ccd outer) (execs (lawBody.drop 8) (lawEnv L fa ccd)) Q E { s with heap := h', toks := tk' }) :
    wpAny (model Challenge.pw_sc0056_02 w) (lawA dp un gd L fa ccd outer) (execs (lawBody.drop 7) (lawEnv L fa ccd)) Q E s := by
  obtain ⟨hp, gns, dr, tk, os⟩ := s
  conv in (List.drop _ lawBody) => whnf
  (try clear sfl)
  walk1
  ((try clear sfl); have sfl : StopH := trivial)
  k_steps
  refine Stop9.go ?_
  rename Fr _ _ _ _ => F1
  rename News _ _ _ _ => N1
  k_dflt (refine CompSrc.ledger rfl F1 N1 (.head _) (Nat.le_of_ble_eq_true rfl) fun g' => ?_)
  refine rest_ind (J := fun i ys news => StrsAre ys (([x0, x1].take i).map fun x => hidL x ++ [10]) ∧ news = _) ?step ?fin _ 0 _ _ (Nat.zero_add _) ⟨.nil, rfl⟩
  case step =>
    clear N1 F1
    rintro i v ys news I oI C oC D m2 h2 tk2 E9 hi hP ⟨hJ, rfl⟩ hC2 hx F2 N2 off ne
    have hI : ∃ x vx, v = Value.str (S x) vx ∧ [x0, x1][i]? = some x ∧ x.length ≤ 9 ∧ x.length ≤ 5 := by
      have hi' : i < 2 := hi
      rcases i with _ | _ | i
      · cases hP; exact ⟨_, _, rfl, rfl, by omega, e0⟩
      · cases hP; exact ⟨_, _, rfl, rfl, by omega, e1⟩
      · omega
    obtain ⟨x, vx, rfl, hx5, hx9, hx6⟩ := hI
    have hxl : (x.flatMap fun c => [92, c]).length ≤ 18 := by
      have := hid_len x
      unfold hidL at this
      omega
    dsimp only
    k_steps
    refine Stop9.go ?_
    rename Fr _ _ _ _ => F5
    rename News _ _ _ _ => N5
    refine CompEnd.intro F5 N5 _ ?s1 off ?r1 ⟨?st, rfl⟩
    case s1 => (intro p hp; repeat first | exact hp | apply List.mem_cons_of_mem)
    case r1 => lcg_src
    case st =>
      rw [List.take_add_one, hx5, List.map_append]
      exact hJ.append (.cons _ _ .nil)
  case fin =>
    clear N1 F1
    rintro ys news ⟨hJ, rfl⟩
    have hsum : (([x0, x1].map fun x => hidL x ++ [10]).map (·.length)).sum + ([x0, x1].map fun x => hidL x ++ [10]).length ≤ 1000000 := by
      have h1 := hid_len x0
      have h2 := hid_len x1
      simp only [List.map_cons, List.map_nil, List.sum_cons, List.sum_nil, List.length_append, List.length_cons, List.length_nil]
      omega
    replace hJ : StrsAre ys ([x0, x1].map fun x => hidL x ++ [10]) := hJ
    dsimp only
    k_steps
    refine Stop9.go ?_
    rename Fr _ _ _ _ => F6
    rename News _ _ _ _ => N6
    refine' next _ _ _ _ ?pg F6 (news_sub N6 ?sub2)
    case sub2 => (intro p hp; (repeat (rcases List.mem_cons.mp hp with rfl | hp; · k_mem)); repeat first | exact hp | apply List.mem_cons_of_mem)
    case pg =>
      have hpg : ([x0, x1].map fun x => hidL x ++ [10]).flatten = pageB x0 x1 := by simp [pageB]
      rw [← hpg]
end
section
example : True := by
  k_with "exec Assign cons ListComp" => ((k_here; k_dflt (refine LCg.Assign_ListComp_U (F₀ := by k_asm) (by rfl) (by with_unfolding_all rfl) (by with_unfolding_all rfl) (by decide) (by rfl) (by decide) (by rfl) (by rfl) (by rfl) ?_)))
  trivial
theorem body0 {w : World} {p loose mean mg mb} {dp un : Nat} {gd : Option (List Code)} {L fa : Addr} {ccd : Value} {outer : List Env} {A₀ : Around} {base g : Heap} {m : PySem.Str → Option Value} {s : Shared} {Q : Flow → Shared → Prop} {E : Value → Shared → Prop} (tl : List (Addr × Obj)) (x0 x1 : List Nat) (e0 : x0.length ≤ 5) (e1 : x1.length ≤ 5) (Hd : Addr) (b0 b1 : Tok) (n_heard : m (PySem.Str.ofString "heard") = some (.ref Hd)) 
    (hB : Below A₀ base outer g) (hF : Fr g L s.heap m) (hX : (hd.heap_1 w.params).In g) (hT : Top p loose mean mg mb g) (hr : dp + 30 < recursionLimit) (hu : un + 16 * 30 < cLine) (hC : CodeHd base 109 107) (hN : News g L s.heap ((Hd, listOf [.str (S x0) b0, .str (S x1) b1].toArray 2) :: tl))
    (next : ∀ (h' : Heap) (tk' : Nat) (m' : PySem.Str → Option Value) (Hh : Addr) (g0 g1 : Tok), Off1 Hh ((Hd, listOf [.str (S x0) b0, .str (S x1) b1].toArray 2) :: tl) → m' = (fun y => if y = (PySem.Str.ofString "hidden") then some (.ref Hh) else m y) → Fr g L h' m' → News g L h' ((Hh, listOf [.str (S (hidL x0)) g0, .str (S (hidL x1)) g1].toArray 2) :: (Hd, listOf [.str (S x0) b0, .str (S x1) b1].toArray 2) :: tl) →
      wpAny (model Challenge.pw_sc0056_02 w) (lawA dp un gd L fa ccd outer) (execs (forBody.drop 1) (lawEnv L fa ccd)) Q E { s with heap := h', toks := tk' }) :
    wpAny (model Challenge.pw_sc0056_02 w) (lawA dp un gd L fa ccd outer) (execs (forBody.drop 0) (lawEnv L fa ccd)) Q E s := by
  obtain ⟨hp, gns, dr, tk, os⟩ := s
  conv in (List.drop _ forBody) => whnf
  (try clear sfl)
  walk1
  ((try clear sfl); have sfl : StopH := trivial)
  k_steps
  refine Stop9.go ?_
  rename Fr _ _ _ _ => F1
  rename News _ _ _ _ => N1
  k_dflt (refine CompSrc.ledger rfl F1 N1 (.head _) (Nat.le_of_ble_eq_true rfl) fun g' => ?_)
  refine rest_ind (J := fun i ys news => StrsAre ys (([x0, x1].take i).map hidL) ∧ news = _) ?step ?fin _ 0 _ _ (Nat.zero_add _) ⟨.nil, rfl⟩
  case step =>
    clear N1 F1
    rintro i v ys news I oI C oC D m2 h2 tk2 E9 hi hP ⟨hJ, rfl⟩ hC2 hx F2 N2 off ne
    have hI : ∃ x vx, v = Value.str (S x) vx ∧ [x0, x1][i]? = some x ∧ x.length ≤ 9 := by
      have hi' : i < 2 := hi
      rcases i with _ | _ | i
      · cases hP; exact ⟨_, _, rfl, rfl, by omega⟩
      · cases hP; exact ⟨_, _, rfl, rfl, by omega⟩
      · omega
    obtain ⟨x, vx, rfl, hx5, hx9⟩ := hI
    dsimp only
    k_steps
    refine Stop9.go ?_
    rename Fr _ _ _ _ => F5
    rename News _ _ _ _ => N5
    refine CompEnd.intro F5 N5 _ ?s1 off ?r1 ⟨?st, rfl⟩
    case s1 => (intro p hp; repeat first | exact hp | apply List.mem_cons_of_mem)
    case r1 => lcg_src
    case st =>
      rw [List.take_add_one, hx5, List.map_append]
      exact hJ.append (.cons _ _ .nil)
  case fin =>
    clear N1 F1
    rintro ys news ⟨hJ, rfl⟩
    intro Hh h5 tk5 F5 N5 o5
    obtain ⟨g0, g1, rfl⟩ := strs2 (show StrsAre ys [hidL x0, hidL x1] from hJ)
    dsimp only
    k_steps
    refine Stop9.go ?_
    rename Fr _ _ _ _ => F6
    rename News _ _ _ _ => N6
    exact next _ _ _ Hh g0 g1 o5 rfl F6 N6
end
section
local macro_rules | `(tactic| walk_at "zz0") => `(tactic| fail)
local macro_rules | `(tactic| walk_at "zz1") => `(tactic| fail)
local macro_rules | `(tactic| walk_at "zz2") => `(tactic| fail)
example : True := by
  k_with "callWith ref" => ((k_here; k_dflt (refine' callWith_K ?Q1oXa ?Q1oXb ?_; (case Q1oXa => k_asm); (case Q1oXb => assumption); k_whole)))
  k_with "S_con" => (exact wr_con (by assumption) _ _ (by assumption))
  trivial
theorem main13 {w : World} {p loose mean mg mb} {dp un : Nat} {gd : Option (List Code)} {L fa : Addr} {ccd : Value} {outer : List Env} {A₀ : Around} {base g : Heap} {m : PySem.Str → Option Value} {s : Shared} {Q : Flow → Shared → Prop} {E : Value → Shared → Prop} (o4 : Obj) (tl : List (Addr × Obj)) (fw : Nat) (wr : List Nat → List Nat) (mk f0 f1 f2 : List Nat) (hwr : (fw, wr, mk, f0, f1, f2) ∈ wrT) (d4 : o4.data = .cell (some (.ref fw))) (x0 x1 : List Nat) (e0 : x0.length ≤ 5) (e1 : x1.length ≤ 5) (Hd : Addr) (b0 b1 : Tok) (n_heard : m (PySem.Str.ofString "heard") = some (.ref Hd)) 
    (hB : Below A₀ base outer g) (hF : Fr g L s.heap m) (hX : (hd.heap_1 w.params).In g) (hT : Top p loose mean mg mb g) (hr : dp + 30 < recursionLimit) (hu : un + 16 * 30 < cLine) (hC : CodeHd base 109 107) (hN : News g L s.heap ((Hd, listOf [.str (S x0) b0, .str (S x1) b1].toArray 2) :: (L + 1 + 1 + 1 + 1, o4) :: tl))
    (next : ∀ (h' : Heap) (tk' : Nat) (m' : PySem.Str → Option Value) (Wd : Addr) (c0 c1 : Tok), Off1 Wd ((Hd, listOf [.str (S x0) b0, .str (S x1) b1].toArray 2) :: (L + 1 + 1 + 1 + 1, o4) :: tl) → m' = (fun y => if y = (PySem.Str.ofString "written") then some (.ref Wd) else m y) → Fr g L h' m' → News g L h' ((Wd, listOf [.str (S (wr x0)) c0, .str (S (wr x1)) c1].toArray 2) :: (Hd, listOf [.str (S x0) b0, .str (S x1) b1].toArray 2) :: (L + 1 + 1 + 1 + 1, o4) :: tl) →
      wpAny (model Challenge.pw_sc0056_02 w) (lawA dp un gd L fa ccd outer) (execs (lawBody.drop 14) (lawEnv L fa ccd)) Q E { s with heap := h', toks := tk' }) :
    wpAny (model Challenge.pw_sc0056_02 w) (lawA dp un gd L fa ccd outer) (execs (lawBody.drop 13) (lawEnv L fa ccd)) Q E s := by
  have hkw := wr_keep (P := w.params) hwr
  obtain ⟨hp, gns, dr, tk, os⟩ := s
  conv in (List.drop _ lawBody) => whnf
  (try clear sfl)
  walk1
  ((try clear sfl); have sfl : StopH := trivial)
  k_steps
  refine Stop9.go ?_
  rename Fr _ _ _ _ => F1
  rename News _ _ _ _ => N1
  k_dflt (refine CompSrc.ledger rfl F1 N1 (.head _) (Nat.le_of_ble_eq_true rfl) fun g' => ?_)
  refine rest_ind (J := fun i ys news => StrsAre ys (([x0, x1].take i).map wr) ∧ news = _) ?step ?fin _ 0 _ _ (Nat.zero_add _) ⟨.nil, rfl⟩
  case step =>
    clear N1 F1
    rintro i v ys news I oI C oC D m2 h2 tk2 E9 hi hP ⟨hJ, rfl⟩ hC2 hx F2 N2 off ne
    have hI : ∃ x vx, v = Value.str (S x) vx ∧ [x0, x1][i]? = some x ∧ x.length ≤ 9 := by
      have hi' : i < 2 := hi
      rcases i with _ | _ | i
      · cases hP; exact ⟨_, _, rfl, rfl, by omega⟩
      · cases hP; exact ⟨_, _, rfl, rfl, by omega⟩
      · omega
    obtain ⟨x, vx, rfl, hx5, hx9⟩ := hI
    dsimp only
    k_steps
    refine Stop9.go ?_
    rename Fr _ _ _ _ => F5
    rename News _ _ _ _ => N5
    refine CompEnd.intro F5 N5 _ ?s1 off ?r1 ⟨?st, rfl⟩
    case s1 => (intro p hp; repeat first | exact hp | apply List.mem_cons_of_mem)
    case r1 => lcg_src
    case st =>
      rw [List.take_add_one, hx5, List.map_append]
      exact hJ.append (.cons _ _ .nil)
  case fin =>
    clear N1 F1
    rintro ys news ⟨hJ, rfl⟩
    intro Wd h5 tk5 F5 N5 o5
    obtain ⟨c0, c1, rfl⟩ := strs2 (show StrsAre ys [wr x0, wr x1] from hJ)
    dsimp only
    k_steps
    refine Stop9.go ?_
    rename Fr _ _ _ _ => F6
    rename News _ _ _ _ => N6
    exact next _ _ _ Wd c0 c1 o5 rfl F6 N6
end
section
example : True := by
  k_with "S_con" => (exact wr_con (by assumption) _ _ (by first | assumption | (simp; done)))
  k_with "call type:set cons nil" => ((k_here; (with_reducible show wpAny _ _ (call (Value.type "set") [Value.str _ _]) _ _ _); k_dflt (refine' set_callS ?Q1rXa ?Q1rXb ?Q1rXc ?_; (case Q1rXa => exact rfl); (case Q1rXb => assumption); (case Q1rXc => assumption)); intro Z1rXd Z1rXf Z1rXe Z1rXb; (have Z1rXa := Fr.keeps (by k_asm) (fun b o e => Z1rXb b o (Heap.lt_size e) e)); (have Z1rXc := News.grown (by k_asm) (fun b o e => Z1rXb b o (Heap.lt_size e) e))))
  k_with "call builtin:sorted" => ((k_here; (with_reducible show wpAny _ _ (call (Value.builtin "sorted") [Value.ref _]) _ _ _); (with_reducible rename Fr _ _ _ _ => Z1sXc); (with_reducible rename News _ _ _ _ => Z1sXe); (with_reducible rename SetP _ _ _ _ _ => Z1sXf); k_dflt (refine' r_sortSet (s := ⟨_, _, _, _, _⟩) ?Q1sXa Z1sXc Z1sXe Z1sXf ?Q1sXb ?Q1sXc ?Q1sXd ?Q1sXe ?_; (case Q1sXa => exact rfl); (case Q1sXd => assumption); (case Q1sXb => assumption); (case Q1sXc => assumption); (case Q1sXe => assumption)); intro Z1sXa Z1sXi Z1sXp Z1sXn Z1sXh Z1sXg Z1sXo Z1sXb Z1sXd Z1sXj Z1sXl Z1sXk Z1sXm))
  trivial
theorem body3 {w : World} {p loose mean mg mb} {dp un : Nat} {gd : Option (List Code)} {L fa : Addr} {ccd : Value} {outer : List Env} {A₀ : Around} {base g : Heap} {m : PySem.Str → Option Value} {s : Shared} {Q : Flow → Shared → Prop} {E : Value → Shared → Prop} (o2 o3 o4 : Obj) (tl : List (Addr × Obj)) (fw : Nat) (wr : List Nat → List Nat) (mk f0 f1 f2 : List Nat) (hwr : (fw, wr, mk, f0, f1, f2) ∈ wrT) (d4 : o4.data = .cell (some (.ref fw))) (la lb : Nat) (ta tb : Tok) (d2 : o2.data = .cell (some (.str (S [la]) ta))) (d3 : o3.data = .cell (some (.str (S [lb]) tb))) (c d : Nat) (hcm : c ∈ wr [la] ++ wr [lb]) (hdm : d ∈ wr [la] ++ wr [lb]) (hcd : c ≠ d) (h8 : ∀ c ∈ wr [la] ++ wr [lb], c < 128) (h12 : (wr [la] ++ wr [lb]).length ≤ 12)
    (hB : Below A₀ base outer g) (hF : Fr g L s.heap m) (hX : (hd.heap_1 w.params).In g) (hT : Top p loose mean mg mb g) (hr : dp + 30 < recursionLimit) (hu : un + 16 * 30 < cLine) (hC : CodeHd base 109 107) (hN : News g L s.heap ((L + 1 + 1 + 1 + 1, o4) :: (L + 1 + 1 + 1, o3) :: (L + 1 + 1, o2) :: tl))
    (next : ∀ (h' : Heap) (dr' : Drawn) (tk' : Nat) (m' : PySem.Str → Option Value) (Ls : Addr) (lv : List Value) (lk : Nat) (ls : List Nat), CharsAre lv ls → (∀ c ∈ ls, c ∈ wr [la] ++ wr [lb]) → ls.length ≤ 12 → AboveAll Ls ((L + 1 + 1 + 1 + 1, o4) :: (L + 1 + 1 + 1, o3) :: (L + 1 + 1, o2) :: tl) → m' = (fun y => if y = (PySem.Str.ofString "letters") then some (.ref Ls) else m y) → Fr g L h' m' → News g L h' ((Ls, listOf lv.toArray lk) :: (L + 1 + 1 + 1 + 1, o4) :: (L + 1 + 1 + 1, o3) :: (L + 1 + 1, o2) :: tl) →
      wpAny (model Challenge.pw_sc0056_02 w) (lawA dp un gd L fa ccd outer) (execs (forBody.drop 4) (lawEnv L fa ccd)) Q E { s with heap := h', drawn := dr', toks := tk' }) :
    wpAny (model Challenge.pw_sc0056_02 w) (lawA dp un gd L fa ccd outer) (execs (forBody.drop 3) (lawEnv L fa ccd)) Q E s := by
  have hkw := wr_keep (P := w.params) hwr
  have q1 : [la].length ≤ 9 := by simp
  have q2 : [lb].length ≤ 9 := by simp
  have h13 : (wr [la] ++ wr [lb]).length + 1 < scanBound := by unfold scanBound; omega
  have hz1 : (wr [la]).length ≤ 12 := by rw [List.length_append] at h12; omega
  have hz2 : (wr [lb]).length ≤ 12 := by rw [List.length_append] at h12; omega
  have h64 : (wr [la] ++ wr [lb]).length < 64 := by omega
  obtain ⟨hp, gns, dr, tk, os⟩ := s
  conv in (List.drop _ forBody) => whnf
  (try clear sfl)
  walk1
  ((try clear sfl); have sfl : StopH := trivial)
  k_steps
  refine Stop9.go ?_
  rename Fr _ _ _ _ => F6
  rename News _ _ _ _ => N6
  rename CharsAre _ _ => hch
  rename AboveAll _ _ => hab
  rename ∀ c ∈ _, c ∈ wr [la] ++ wr [lb] => hmm
  exact next _ _ _ _ _ _ _ _ hch hmm (by omega) hab rfl F6 N6
end
section
local macro_rules | `(tactic| walk_at "zz0") => `(tactic| fail)
local macro_rules | `(tactic| walk_at "zz1") => `(tactic| fail)
local macro_rules | `(tactic| walk_at "zz2") => `(tactic| fail)
example : True := by
  k_with "S_con" => (exact con_says _ _ _ _ (by assumption) (by omega) (by assumption) (by assumption))
  k_with "compareOp NotEq ref ref" => ((k_here; (with_reducible show wpAny _ _ (compareOp CmpOp.NotEq (Value.ref _) (Value.ref _)) _ _ _); k_dflt (refine' r_neSaid ?Q1uXa ?Q1uXb ?Q1uXc ?Q1uXd ?Q1uXe ?Q1uXf ?_; (case Q1uXa => (rename News _ _ _ _ => Z1uXa); exact Z1uXa); (case Q1uXb => k_mem); (case Q1uXc => k_mem); (case Q1uXd => assumption); (case Q1uXe => assumption); (case Q1uXf => ke_room))))
  trivial
theorem body2 {w : World} {p loose mean mg mb} {dp un : Nat} {gd : Option (List Code)} {L fa : Addr} {ccd : Value} {outer : List Env} {A₀ : Around} {base g : Heap} {m : PySem.Str → Option Value} {s : Shared} {Q : Flow → Shared → Prop} {E : Value → Shared → Prop} (tl : List (Addr × Obj)) (x0 x1 : List Nat) (Hh : Addr) (g0 g1 : Tok) (U : Addr) (bb : Bool) (y1 y2 : Tok) (wd : List Nat) (tw : Tok) (hne : wd ≠ []) (h9 : wd.length ≤ 9) (h46 : 46 ∉ wd) (l0 : (hidL x0).length ≤ 900) (l1 : (hidL x1).length ≤ 900) (y0 : subB wd (hidL x0) = bb) (y3 : subB wd (hidL x1) = !bb) (n_hidden : m (PySem.Str.ofString "hidden") = some (.ref Hh)) (n_word : m (PySem.Str.ofString "word") = some (.str (S wd) tw)) (n_said : m (PySem.Str.ofString "said") = some (.ref U)) 
    (hB : Below A₀ base outer g) (hF : Fr g L s.heap m) (hX : (hd.heap_1 w.params).In g) (hT : Top p loose mean mg mb g) (hr : dp + 30 < recursionLimit) (hu : un + 16 * 30 < cLine) (hC : CodeHd base 109 107) (hN : News g L s.heap ((Hh, listOf [.str (S (hidL x0)) g0, .str (S (hidL x1)) g1].toArray 2) :: (U, tupObj [.str (S (sayL bb)) y1, .str (S (sayL (!bb))) y2]) :: tl))
    (next : ∀ (h' : Heap) (tk' : Nat), Fr g L h' m → News g L h' ((Hh, listOf [.str (S (hidL x0)) g0, .str (S (hidL x1)) g1].toArray 2) :: (U, tupObj [.str (S (sayL bb)) y1, .str (S (sayL (!bb))) y2]) :: tl) →
      wpAny (model Challenge.pw_sc0056_02 w) (lawA dp un gd L fa ccd outer) (execs (forBody.drop 3) (lawEnv L fa ccd)) Q E { s with heap := h', toks := tk' }) :
    wpAny (model Challenge.pw_sc0056_02 w) (lawA dp un gd L fa ccd outer) (execs (forBody.drop 2) (lawEnv L fa ccd)) Q E s := by
  obtain ⟨hp, gns, dr, tk, os⟩ := s
  conv in (List.drop _ forBody) => whnf
  (try clear sfl)
  walk1
  ((try clear sfl); have sfl : StopH := trivial)
  k_steps
  refine Stop9.go ?_
  rename Fr _ _ _ _ => F6
  rename News _ _ _ _ => N6
  exact next _ _ F6 (news_sub N6 (by (intro p hp; (repeat (rcases List.mem_cons.mp hp with rfl | hp; · k_mem)); repeat first | exact hp | apply List.mem_cons_of_mem)))
end
section
theorem body6 {w : World} {p loose mean mg mb} {dp un : Nat} {gd : Option (List Code)} {L fa : Addr} {ccd : Value} {outer : List Env} {A₀ : Around} {base g : Heap} {m : PySem.Str → Option Value} {s : Shared} {Q : Flow → Shared → Prop} {E : Value → Shared → Prop} (tl : List (Addr × Obj)) (x0 x1 : List Nat) (Wd : Addr) (c0 c1 : Tok) (wr : List Nat → List Nat) (U : Addr) (bb : Bool) (y1 y2 : Tok) (wd : List Nat) (tw : Tok) (hne : wd ≠ []) (h9 : wd.length ≤ 9) (h46 : 46 ∉ wd) (l0 : (wr x0).length ≤ 900) (l1 : (wr x1).length ≤ 900) (y0 : subB wd (wr x0) = bb) (y3 : subB wd (wr x1) = !bb) (n_written : m (PySem.Str.ofString "written") = some (.ref Wd)) (n_name : m (PySem.Str.ofString "name") = some (.str (S wd) tw)) (n_said : m (PySem.Str.ofString "said") = some (.ref U)) 
    (hB : Below A₀ base outer g) (hF : Fr g L s.heap m) (hX : (hd.heap_1 w.params).In g) (hT : Top p loose mean mg mb g) (hr : dp + 30 < recursionLimit) (hu : un + 16 * 30 < cLine) (hC : CodeHd base 109 107) (hN : News g L s.heap ((Wd, listOf [.str (S (wr x0)) c0, .str (S (wr x1)) c1].toArray 2) :: (U, tupObj [.str (S (sayL bb)) y1, .str (S (sayL (!bb))) y2]) :: tl))
    (next : ∀ (h' : Heap) (tk' : Nat), Fr g L h' m → News g L h' ((Wd, listOf [.str (S (wr x0)) c0, .str (S (wr x1)) c1].toArray 2) :: (U, tupObj [.str (S (sayL bb)) y1, .str (S (sayL (!bb))) y2]) :: tl) →
      Q .next { s with heap := h', toks := tk' }) :
    wpAny (model Challenge.pw_sc0056_02 w) (lawA dp un gd L fa ccd outer) (execs (forBody.drop 6) (lawEnv L fa ccd)) Q E s := by
  obtain ⟨hp, gns, dr, tk, os⟩ := s
  conv in (List.drop _ forBody) => whnf
  (try clear sfl)
  walk1
  ((try clear sfl); have sfl : StopH := trivial)
  k_steps
  rename Fr _ _ _ _ => F6
  rename News _ _ _ _ => N6
  exact next _ _ F6 (news_sub N6 (by (intro p hp; (repeat (rcases List.mem_cons.mp hp with rfl | hp; · k_mem)); repeat first | exact hp | apply List.mem_cons_of_mem)))
end
section
local macro_rules | `(tactic| walk_at "zz0") => `(tactic| fail)
local macro_rules | `(tactic| walk_at "zz1") => `(tactic| fail)
local macro_rules | `(tactic| walk_at "zz2") => `(tactic| fail)
example : True := by
  k_with "eval ListComp" => (walk_at "S_lcs")
  k_with "S_con" => (first | exact con_lown (by assumption) _ _ _ _ (by assumption) (by assumption))
  trivial
theorem body5 {w : World} {p loose mean mg mb} {dp un : Nat} {gd : Option (List Code)} {L fa : Addr} {ccd : Value} {outer : List Env} {A₀ : Around} {base g : Heap} {m : PySem.Str → Option Value} {s : Shared} {Q : Flow → Shared → Prop} {E : Value → Shared → Prop} (o2 o3 o4 : Obj) (tl : List (Addr × Obj)) (fw : Nat) (wr : List Nat → List Nat) (mk f0 f1 f2 : List Nat) (hwr : (fw, wr, mk, f0, f1, f2) ∈ wrT) (d4 : o4.data = .cell (some (.ref fw))) (la lb : Nat) (ta tb : Tok) (d2 : o2.data = .cell (some (.str (S [la]) ta))) (d3 : o3.data = .cell (some (.str (S [lb]) tb))) (wd : List Nat) (tw : Tok) (h9 : wd.length ≤ 4) (z1 : (wr [la]).length ≤ 20) (z2 : (wr [lb]).length ≤ 20) (z3 : ∀ b ∈ wr [la], b < 128) (z4 : ∀ b ∈ wr [lb], b < 128) (n_word : m (PySem.Str.ofString "word") = some (.str (S wd) tw)) 
    (hB : Below A₀ base outer g) (hF : Fr g L s.heap m) (hX : (hd.heap_1 w.params).In g) (hT : Top p loose mean mg mb g) (hr : dp + 30 < recursionLimit) (hu : un + 16 * 30 < cLine) (hC : CodeHd base 109 107) (hN : News g L s.heap ((L + 1 + 1 + 1 + 1, o4) :: (L + 1 + 1 + 1, o3) :: (L + 1 + 1, o2) :: tl))
    (next : ∀ (h' : Heap) (tk' : Nat) (m' : PySem.Str → Option Value) (tn : Tok), m' = (fun y => if y = (PySem.Str.ofString "name") then some (.str (S (wd.flatMap (ownN wr la lb))) tn) else m y) → Fr g L h' m' → News g L h' ((L + 1 + 1 + 1 + 1, o4) :: (L + 1 + 1 + 1, o3) :: (L + 1 + 1, o2) :: tl) →
      wpAny (model Challenge.pw_sc0056_02 w) (lawA dp un gd L fa ccd outer) (execs (forBody.drop 6) (lawEnv L fa ccd)) Q E { s with heap := h', toks := tk' }) :
    wpAny (model Challenge.pw_sc0056_02 w) (lawA dp un gd L fa ccd outer) (execs (forBody.drop 5) (lawEnv L fa ccd)) Q E s := by
  have hkw := wr_keep (P := w.params) hwr
  have hsum : ((wd.map (ownN wr la lb)).map (·.length)).sum + (wd.map (ownN wr la lb)).length ≤ 1000000 := by
    have := sum_le (f := (ownN wr la lb)) (B := 1) (ownN_len wr la lb) wd
    rw [List.length_map]; omega
  obtain ⟨hp, gns, dr, tk, os⟩ := s
  conv in (List.drop _ forBody) => whnf
  (try clear sfl)
  walk1
  ((try clear sfl); have sfl : StopH := trivial)
  k_steps
  rename News _ _ _ _ => N1
  rename Fr _ _ _ _ => F1
  refine ⟨wd, _, _, rfl, rfl, F1, N1, by omega, fun s2 hs2 => ?_⟩
  obtain ⟨h9, rfl⟩ := hs2
  refine rest_ind (J := fun i ys news => StrsAre ys ((wd.take i).map (ownN wr la lb)) ∧ news = _) ?step ?fin _ 0 _ _ (Nat.zero_add _) ⟨.nil, rfl⟩
  case step =>
    clear N1 F1
    rintro i v ys news I oI C oC D m2 h2 tk2 E9 hi hP ⟨hJ, rfl⟩ hC2 hx F2 N2 off ne
    obtain ⟨b, u, hb, rfl⟩ := hP
    have hb' : wd[i]? = some b := by simpa [S] using hb
    dsimp only
    k_steps
    · rename (_ == S [la]) = true => hq0
      have hq : b = la := by simpa [S] using hq0
      rename Fr _ _ _ _ => F5
      rename News _ _ _ _ => N5
      refine Stop9.go (CompEnd.intro F5 N5 _ ?s1 off trivial ⟨?_, rfl⟩)
      case s1 => (intro p hp; repeat first | exact hp | apply List.mem_cons_of_mem)
      rw [List.take_add_one, hb', List.map_append]
      refine hJ.append ?_
      show StrsAre _ [(ownN wr la lb) b]
      unfold ownN
      rw [if_pos hq]
      exact .cons _ _ .nil
    · first | (rename (_ == S [la]) = false => hq0) | (rename ¬ (_ == S [la]) = true => hq0)
      have hq : b ≠ la := by simpa [S] using hq0
      rename Fr _ _ _ _ => F5
      rename News _ _ _ _ => N5
      refine Stop9.go (CompEnd.intro F5 N5 _ ?s2 off trivial ⟨?_, rfl⟩)
      case s2 => (intro p hp; repeat first | exact hp | apply List.mem_cons_of_mem)
      rw [List.take_add_one, hb', List.map_append]
      refine hJ.append ?_
      show StrsAre _ [(ownN wr la lb) b]
      unfold ownN
      rw [if_neg hq]
      exact .cons _ _ .nil
  case fin =>
    clear N1 F1
    rintro ys news ⟨hJ, rfl⟩
    rw [List.take_length] at hJ
    dsimp only
    k_steps
    refine Stop9.go ?_
    rename Fr _ _ _ _ => F6
    rename News _ _ _ _ => N6
    refine' next _ _ _ _ ?pg F6 (news_sub N6 ?sub2)
    case sub2 => (intro p hp; (repeat (rcases List.mem_cons.mp hp with rfl | hp; · k_mem)); repeat first | exact hp | apply List.mem_cons_of_mem)
    case pg =>
      rw [List.flatMap_def]
end
section
example : True := by
  k_with "S_con" => (exact con_due _ _ _ _ (by assumption) (by assumption) (by assumption) (by assumption))
  k_with "S_back" => ((intro Z1yXf; obtain ⟨Z1yXa, Z1yXj, Z1yXh, Z1yXi, Z1yXg, Z1yXd, Z1yXe⟩ := Z1yXf; subst Z1yXg; (obtain ⟨Z1yXb, Z1yXc⟩ := news_adds (by k_asm) (by k_asm) (by k_asm) Z1yXe); clear Z1yXe))
  trivial
theorem main11 {w : World} {p loose mean mg mb} {dp un : Nat} {gd : Option (List Code)} {L fa : Addr} {ccd : Value} {outer : List Env} {A₀ : Around} {base g : Heap} {m : PySem.Str → Option Value} {s : Shared} {Q : Flow → Shared → Prop} {E : Value → Shared → Prop} (tl : List (Addr × Obj)) (Dd : Addr) (kd : Nat) (x0 x1 : List Nat) (v0 v1 : Tok) (e0 : x0.length ≤ 5) (e1 : x1.length ≤ 5) (h80 : ∀ c ∈ x0, c < 128) (h81 : ∀ c ∈ x1, c < 128) (n_drawn : m (PySem.Str.ofString "drawn") = some (.ref Dd)) 
    (hB : Below A₀ base outer g) (hF : Fr g L s.heap m) (hX : (hd.heap_1 w.params).In g) (hT : Top p loose mean mg mb g) (hr : dp + 30 < recursionLimit) (hu : un + 16 * 30 < cLine) (hC : CodeHd base 109 107) (hN : News g L s.heap ((Dd, listOf [.str (S x0) v0, .str (S x1) v1].toArray kd) :: tl))
    (next : ∀ (h' : Heap) (tk' : Nat) (m' : PySem.Str → Option Value) (Du : Addr) (us : List Value) (ku : Nat) (utl : List (Addr × Obj)), FoundAre us utl (dueL x0 x1) → OffL ((Du, listOf us.toArray ku) :: utl) ((Dd, listOf [.str (S x0) v0, .str (S x1) v1].toArray kd) :: tl) → m' = (fun y => if y = (PySem.Str.ofString "due") then some (.ref Du) else m y) → Fr g L h' m' → News g L h' ((Du, listOf us.toArray ku) :: (utl ++ (Dd, listOf [.str (S x0) v0, .str (S x1) v1].toArray kd) :: tl)) →
      wpAny (model Challenge.pw_sc0056_02 w) (lawA dp un gd L fa ccd outer) (execs (lawBody.drop 12) (lawEnv L fa ccd)) Q E { s with heap := h', toks := tk' }) :
    wpAny (model Challenge.pw_sc0056_02 w) (lawA dp un gd L fa ccd outer) (execs (lawBody.drop 11) (lawEnv L fa ccd)) Q E s := by
  obtain ⟨hp, gns, dr, tk, os⟩ := s
  conv in (List.drop _ lawBody) => whnf
  (try clear sfl)
  walk1
  ((try clear sfl); have sfl : StopH := trivial)
  k_steps
  refine Stop9.go ?_
  rename FoundAre _ _ _ => R1
  rename OffL _ _ => off
  rename Fr _ _ _ _ => F6
  rename News _ _ _ _ => N6
  exact next _ _ _ _ _ _ _ R1 off rfl F6 N6
end
section
local macro_rules | `(tactic| walk_at "zz0") => `(tactic| fail)
local macro_rules | `(tactic| walk_at "zz1") => `(tactic| fail)
local macro_rules | `(tactic| walk_at "zz2") => `(tactic| fail)
example : True := by
  k_with_none
  w_top off
  k_with "olt" => (first | assumption | ((fail_if_success refine oM ?_); refine oL ?_; k_extra "ole") | k_extra "olh")
  k_with "olh" => (refine oH (by assumption) (by k_extra "ole"))
  k_with "ole" => (first | exact Nat.le_refl _ | assumption | exact oB | ((first | refine oA ?_ | refine oA2 ?_ | refine oA3 ?_); k_extra "ocl") | (refine oS ?_; k_extra "ole") | (refine Nat.le_of_lt ?_; (first | assumption | k_extra "olh")) | exact oE)
  k_with "olt2" => (first | k_extra "oas" | ((fail_if_success refine oM ?_); refine oL ?_; k_extra "ole2") | k_extra "olh2")
  k_with "olh2" => (refine oH (by k_extra "oas") (by k_extra "ole2"))
  k_with "ole2" => (first | exact Nat.le_refl _ | k_extra "oas" | exact oB | ((first | refine oA ?_ | refine oA2 ?_ | refine oA3 ?_); k_extra "ocl") | (refine oS ?_; k_extra "ole2") | (refine Nat.le_of_lt ?_; (first | k_extra "oas" | k_extra "olh2")) | exact oE)
  k_with "opu" => (first | exact oB | exact Nat.le_refl _ | (refine oS ?_; k_extra "opu"))
  k_with "olt0" => (refine oL ?_; k_extra "opu")
  k_with "one" => (first | (refine Nat.ne_of_gt ?_; (fail_if_success refine oM ?_); k_extra "olt0") | (refine Nat.ne_of_lt ?_; (fail_if_success refine oM ?_); k_extra "olt0") | exact Ne.symm (by assumption) | (refine Nat.ne_of_gt ?_; (fail_if_success refine oM ?_); k_extra "oas") | (refine Nat.ne_of_lt ?_; (fail_if_success refine oM ?_); k_extra "oas") | (refine Nat.ne_of_gt ?_; (fail_if_success refine oM ?_); k_extra "odd") | (refine Nat.ne_of_lt ?_; (fail_if_success refine oM ?_); k_extra "odd") | (refine Nat.ne_of_gt ?_; (fail_if_success refine oM ?_); k_extra "olt") | (refine Nat.ne_of_lt ?_; (fail_if_success refine oM ?_); k_extra "olt") | (refine Nat.ne_of_gt ?_; (fail_if_success refine oM ?_); k_extra "olt2") | (refine Nat.ne_of_lt ?_; (fail_if_success refine oM ?_); k_extra "olt2") | decide)
  k_with "ol1" => (first | ((fail_if_success refine oM ?_); first | k_extra "oas" | k_extra "olt0" | k_extra "odd" | k_extra "olt" | k_extra "olt2") | k_extra "ocl" | exact oT0 | exact oT5)
  k_with "oe1" => (first | ((fail_if_success refine oN ?_); first | k_extra "oas" | k_extra "opu" | k_extra "ole" | k_extra "ole2" | exact oE (by k_extra "oas")) | k_extra "ocl" | k_extra "olit" | k_extra "oas")
  k_with "olit" => (first | exact oT4 | exact oP | exact oP2 | exact oT1 | exact oT2 | exact oT3 | exact oQ5 | exact oQ1 | exact oQ2 | exact oQ3 | exact oQ4 | exact oQ6 | exact oD)
  k_with "ocl" => (with_unfolding_all exact Nat.le_of_ble_eq_true rfl)
  k_with "oas" => (first | assumption | exact oa1 | exact ob1 | exact oa2 | exact ob2 | exact oa3 | exact ob3 | exact oa4 | exact ob4 | exact oa5 | exact ob5 | exact oa6 | exact ob6 | exact oa7 | exact ob7)
  k_with "odd" => (first | exact oa1 ob7 | exact oa2 ob7 | exact oa3 ob7 | exact oa4 ob7 | exact oa5 ob7 | exact oa6 ob7 | exact oa7 ob7 | exact oa1 (ob7 ob7) | exact oa2 (ob7 ob7) | exact oa3 (ob7 ob7) | exact oa4 (ob7 ob7) | exact oa5 (ob7 ob7) | exact oa6 (ob7 ob7) | exact oa7 (ob7 ob7) | exact ob1 ob7 | exact ob2 ob7 | exact ob3 ob7 | exact ob4 ob7 | exact ob5 ob7 | exact ob6 ob7 | exact ob7 ob7)
  k_with "oin" => (first | decide | exact oI1 | exact oI3 | exact oI2 (by k_extra "oas"))
  k_with "om" => (with_reducible first | (first | assumption | ((fail_if_success fail_if_success refine oXn ?_); k_extra "one") | ((fail_if_success fail_if_success refine oXl ?_); k_extra "ol1") | ((fail_if_success fail_if_success refine oXe ?_); k_extra "oe1") | k_extra "oin") | fail)
  k_with "S_fit" => (first | omega | ((simp only [S_len, List.length_append, List.length_cons, List.length_nil, List.length_take, List.length_drop, dots, PySem.sizeLine_eq]); omega))
  k_with "call builtin:len" => (((with_reducible show wpAny _ _ (call (Value.builtin "len") [Value.str (S _) _]) _ _ _); refine r_len (by walk_at "S_fit") ?_))
  k_with "call builtin:str.startswith" => (((with_reducible show wpAny _ _ (call (Value.builtin "str.startswith") [Value.str (S _) _, Value.str (S _) _]) _ _ _); refine r_starts ?_))
  k_with "call builtin:str.endswith" => (((with_reducible show wpAny _ _ (call (Value.builtin "str.endswith") [Value.str (S _) _, Value.str (S _) _]) _ _ _); refine r_ends ?_))
  k_with "truthy str" => (((with_reducible show wpAny _ _ (truthy (Value.str (S _) _)) _ _ _); refine r_truthy (by walk_at "S_fit") ?_))
  k_with "exec For Name Name cons nil" => ((k_here; (rename Fr _ _ _ _ => Z6Xa); (with_unfolding_all refine' For_invVF Z6Xa ?Q6Xa ?Q6Xb ?_; (case Q6Xa => exact rfl); (case Q6Xb => exact rfl); k_whole)))
  k_with "pyIter ref" => (((with_reducible show wpAny _ _ (pyIter (Value.ref _)) (fun it s₂ => LoopAtV _ _ _ _ _ _ _ _ _ it s₂) _ _); k_listUnr))
  k_with "S_enter" => ((refine' code_defG (news := []) ?Q8Xa ?Q8Xb ?Q8Xc ?Q8Xd ?Q8Xe ?Q8Xf ?Q8Xg ?Q8Xh ?Q8Xi ?Q8Xj ?Q8Xk ?Q8Xl ?Q8Xm ?_ ?Q8Xn ?Q8Xo ?Q8Xp ?Q8Xq; (case Q8Xf => exact rfl); (case Q8Xg => exact rfl); (case Q8Xh => assumption); (case Q8Xa => k_asm); (case Q8Xb => k_asm); (case Q8Xc => k_asm); (case Q8Xd => exact News.nil); (case Q8Xe => k_asm); (case Q8Xi => k_is); (case Q8Xj => k_is); (case Q8Xk => ktr_room); (case Q8Xl => exact BindsTo.of_eq rfl); (case Q8Xq => decide); (case Q8Xm => exact locs rfl); (case Q8Xn => exact rfl); (case Q8Xo => exact rfl); (case Q8Xp => exact rfl); k_whole; intro Z8Xh Z8Xd Z8Xi Z8Xc Z8Xb Z8Xe Z8Xa Z8Xg Z8Xf Z8Xj; (try dsimp only [List.map_nil] at Z8Xj); (try dsimp only); (try k_lift Z8Xa); (try k_fold)))
  k_with "S_look" => (first | exact rfl | assumption | exact (if_pos rfl) | (refine (if_neg (by decide)).trans ?_; walk_at "S_look"))
  k_with "eval Name" => ((k_here; k_dflt (refine' nameX_L ?QaXa ?QaXb ?_ ?QaXc ?QaXd; (case QaXa => k_asm); (case QaXc => rfl); (case QaXd => rfl); (case QaXb => walk_at "S_look"); k_whole)))
  k_with "S_lit" => (first | (with_reducible exact lit_dots) | (with_reducible rfl))
  k_with "S_nn" => (first | omega | ((simp only [List.length_append, List.length_cons, List.length_nil, List.length_take, List.length_drop, dots] at *); omega))
  k_with "binaryOp Add str str" => (((with_reducible show wpAny _ _ (binaryOp _ (Value.str _ _) (Value.str _ _)) _ _ _); k_dflt (refine r_add (by walk_at "S_lit") (by walk_at "S_lit") (by walk_at "S_fit") ?_); intro _ _))
  k_with "subscriptTail Name Slice str ref" => (((with_reducible show wpAny _ _ (subscriptTail _ (Expr.Slice none (some _) none _) (Value.str (S _) _) _) _ _ _); (with_reducible rename Fr _ _ _ _ => ZeXa); (with_reducible rename News _ _ _ _ => ZeXb); (refine r_sliceTo (s := ⟨_, _, _, _, _⟩) ZeXa ZeXb (by walk_at "S_nn") (by walk_at "S_fit") ?_); intro _ _ _ _ _))
  k_with "subscriptTail Name Slice str ref" => (((with_reducible show wpAny _ _ (subscriptTail _ (Expr.Slice (some _) none none _) (Value.str (S _) _) _) _ _ _); (with_reducible rename Fr _ _ _ _ => ZfXa); (with_reducible rename News _ _ _ _ => ZfXb); (refine r_sliceFrom (s := ⟨_, _, _, _, _⟩) ZfXa ZfXb (by walk_at "S_nn") (by walk_at "S_fit") ?_); intro _ _ _ _ _))
  k_with "exec For Name Call cons nil" => ((k_here; (rename Fr _ _ _ _ => ZgXa); (with_unfolding_all refine' For_invVF ZgXa ?QgXa ?QgXb ?_; (case QgXa => exact rfl); (case QgXb => exact rfl); k_whole)))
  k_with "S_use" => ((refine' pcon_use ?QhXa ?QhXb ?QhXc ?QhXd ?QhXe ?QhXf ?QhXg ?QhXh ?_; (case QhXb => k_asm); (case QhXc => k_asm); (case QhXd => k_asm); (case QhXe => k_asm); (case QhXa => walk_at "S_con"); (case QhXf => first | exact rfl | assumption); (case QhXg => ktr_room); (case QhXh => ktr_units)))
  k_with "call ref" => ((k_here; k_dflt (walk_at "S_use"); intro ZiXf ZiXd ZiXe ZiXb; (have ZiXa := Fr.keeps (by k_asm) ZiXb); (have ZiXc := News.grown (by k_asm) ZiXb); walk_at "S_back" <;> ((try dsimp only); (try k_fold))))
  k_with "pyIter ref" => (k_extra "S_loop")
  k_with "S_bool" => ((intro ZkXa; (rcases bool_or ZkXa with ⟨R8, R7⟩ | ⟨R8, R7⟩) <;> subst R7))
  k_with "call builtin:list.append" => ((k_here; (with_reducible show wpAny _ _ (call (Value.builtin _) [Value.ref _, _]) _ _ _); k_dflt (refine' append_K ?QlXa ?QlXb ?QlXc ?_ ?QlXd; (case QlXa => k_asm); (case QlXb => k_asm); (case QlXc => k_upd); (case QlXd => exact size_ok (k := 100000) (by omega) (by decide)); k_whole); intro ZlXc ZlXa ZlXb; (try k_sweep)))
  k_with "m_k_room" => (ktr_room)
  k_with "m_k_units" => (ktr_units)
  k_with "S_enterM" => ((refine' code_defG ?QoXa ?QoXb ?QoXc ?QoXd ?QoXe ?QoXf ?QoXg ?QoXh ?QoXi ?QoXj ?QoXk ?QoXl ?QoXm ?_ ?QoXn ?QoXo ?QoXp ?QoXq; (case QoXf => exact rfl); (case QoXg => exact rfl); (case QoXh => assumption); (case QoXa => k_asm); (case QoXb => k_asm); (case QoXc => k_asm); (case QoXd => k_asm); (case QoXe => k_asm); (case QoXi => k_is); (case QoXj => k_is); (case QoXk => ktr_room); (case QoXl => exact BindsTo.of_eq rfl); (case QoXq => decide); (case QoXm => exact locs rfl); (case QoXn => exact rfl); (case QoXo => exact rfl); (case QoXp => exact rfl); k_whole; intro ZoXh ZoXd ZoXi ZoXc ZoXb ZoXe ZoXa ZoXg ZoXf ZoXj; (try dsimp only [List.map_nil, List.map_cons] at ZoXj); (try dsimp only); (try k_lift ZoXa); (try k_fold)))
  k_with "callWith" => (((with_reducible show wpAny _ _ (callWith _ (Prod.fst _) (Prod.snd _) _ _) _ _ _); dsimp only))
  k_with "S_int" => (first | omega | decide | ((simp only [List.length_cons, List.length_nil, decide_eq_true_eq, decide_eq_false_iff_not, beq_iff_eq, beq_eq_false_iff_ne, ne_eq, Int.not_lt, Int.not_le] at *); omega))
  k_with "binaryOp FloorDiv int int" => (((with_reducible show wpAny _ _ (binaryOp _ (Value.int _ _) (Value.int _ _)) _ _ _); k_dflt (refine r_fdiv (by walk_at "S_int") (by walk_at "S_int") ?_); intro _ _))
  k_with "binaryOp Mod int int" => (((with_reducible show wpAny _ _ (binaryOp _ (Value.int _ _) (Value.int _ _)) _ _ _); k_dflt (refine r_fmod (by walk_at "S_int") ?_); intro _ _))
  k_with "S_item" => (((with_reducible show wpAny _ _ (subscriptTail _ _ (Value.str (S _) _) (Value.int _ _)) _ _ _); k_dflt (refine r_item (by walk_at "S_int") (by walk_at "S_int") (by walk_at "S_fit") ?_); intro _ _))
  k_with "subscriptTail Name BinOp str int" => (walk_at "S_item")
  k_with "subscriptTail Name Constant str int" => (walk_at "S_item")
  k_with "subscriptTail Name Name str int" => (walk_at "S_item")
  k_with "S_lit" => (first | (with_reducible exact lit_dots) | (with_reducible exact lit_empty) | (with_reducible exact lit34) | (with_reducible exact lit9234) | (with_reducible exact lit92) | (with_reducible exact lit10) | (with_reducible exact lit38) | (with_reducible exact lit59) | (with_reducible rfl))
  k_with "call builtin:str.replace" => (((with_reducible show wpAny _ _ (call (Value.builtin _) [Value.str (S _) _, Value.str _ _, Value.str _ _]) _ _ _); k_dflt (refine r_replace (by walk_at "S_lit") (by walk_at "S_lit") (by decide) (Nat.succ_ne_zero _) (Nat.succ_ne_zero _) (Nat.ne_of_lt (Nat.lt_succ_self _)) (by decide) (by walk_at "S_nn") ?_); intro _ _))
  k_with "call builtin:str.join" => ((k_here; (with_reducible show wpAny _ _ (call (Value.builtin _) [Value.str _ _, Value.ref _]) _ _ _); k_dflt (refine r_join (by walk_at "S_lit") (by walk_at "S_isl") (by walk_at "S_strs") (by walk_at "S_sum") ?_); intro _ _))
  k_with "S_isl" => (first | assumption | exact ⟨LCg.lst _, News.get (by k_asm) (by k_mem), rfl, _, rfl⟩ | is_list)
  k_with "S_strs" => (first | exact StrsAre.nil | assumption | (exact CharsAre.strs (by assumption)))
  k_with "binaryOp Mult str int" => (((with_reducible show wpAny _ _ (binaryOp _ (Value.str (S _) _) (Value.int _ _)) _ _ _); k_dflt (refine r_mul (by walk_at "S_int") (by walk_at "S_int") (by walk_at "S_nn") ?_); intro _ _))
  k_with "S_enterC" => ((refine' code_defCG ?Q13Xa ?Q13Xb ?Q13Xc ?Q13Xd ?Q13Xe ?Q13Xf ?Q13Xg ?Q13Xh ?Q13Xi ?Q13Xj ?Q13Xk ?Q13Xl ?Q13Xm ?Q13Xn ?_ ?Q13Xo ?Q13Xp ?Q13Xq; (case Q13Xf => exact rfl); (case Q13Xg => exact rfl); (case Q13Xh => assumption); (case Q13Xa => k_asm); (case Q13Xb => k_asm); (case Q13Xc => k_asm); (case Q13Xd => k_asm); (case Q13Xe => k_asm); (case Q13Xi => k_is); (case Q13Xj => k_is); (case Q13Xk => ktr_room); (case Q13Xl => exact BindsTo.of_eq rfl); (case Q13Xm => rfl); (case Q13Xn => decide); (case Q13Xo => exact rfl); (case Q13Xp => exact rfl); (case Q13Xq => exact rfl); k_whole; intro Z13Xj Z13Xd Z13Xk Z13Xo Z13Xi Z13Xc Z13Xb Z13Xe Z13Xh Z13Xa Z13Xg Z13Xf Z13Xm Z13Xl Z13Xn; (try dsimp only [List.map_nil, List.map_cons] at Z13Xl); (try k_lt Z13Xm); k_cells Z13Xh; (try simp only [List.cons_append, List.nil_append] at Z13Xe); (try dsimp only); (try k_lift Z13Xa); (try k_fold)))
  k_with "S_lcs" => ((k_here; k_dflt (refine ListComp_S (_F₀ := by k_asm) (by rfl) (by decide) (by rfl) (by decide) (by rfl) ?_)))
  k_with "S_lit" => (first | (with_reducible exact lit_dots) | (with_reducible exact lit_empty) | (with_reducible exact lit34) | (with_reducible exact lit9234) | (with_reducible exact lit92) | (with_reducible exact lit10) | (with_reducible exact lit38) | (with_reducible exact lit59) | (with_reducible exact lit60) | (with_reducible exact lit62) | (with_reducible exact lit13) | (with_reducible exact lit9) | (with_reducible exact litamp) | (with_reducible exact litlt) | (with_reducible exact litgt) | (with_reducible exact litquot) | (with_reducible rfl))
  k_with "S_sum" => (assumption)
  k_with "eval ListComp" => ((k_here; (with_reducible show wpAny _ _ (eval (PySem.Expr.ListComp _ [⟨PySem.Expr.Tuple _ _ _, _, [], 0⟩] _ _) _) _ _ _); k_dflt (refine ListComp_E (_F₀ := by k_asm) (by rfl) (by decide) (by rfl) (by decide) (by rfl) (by rfl) (by decide) ?_)))
  k_with "eval ListComp" => ((k_here; (with_reducible show wpAny _ _ (eval (PySem.Expr.ListComp _ [⟨PySem.Expr.Name _ _, _, [], 0⟩] _ _) _) _ _ _); k_dflt (refine LCg.ListComp_U (F₀ := by k_asm) (by rfl) (by decide) (by rfl) (by decide) (by rfl) ?_)))
  k_with "call type:enumerate" => (refine stop9 ?_)
  k_with "exec Assign cons ListComp" => ((k_here; k_dflt (refine wpAny_Assign_Name ?_ (by rfl))))
  k_with "CompSrc" => (refine stop9 ?_)
  k_with "CompEnd" => (refine stop9 ?_)
  k_with "FinE" => (((unfold LCg.FinE); intro Z1dXa Z1dXd Z1dXf Z1dXb Z1dXc Z1dXe; (try simp only [List.nil_append, List.cons_append] at Z1dXc); (try dsimp only)))
  k_with "FinA" => (((unfold LCg.FinA); intro Z1eXa Z1eXd Z1eXf Z1eXb Z1eXc Z1eXe; (try simp only [List.nil_append, List.cons_append] at Z1eXc); (try dsimp only)))
  k_with "m_k_ne" => (first | (refine neN ?_; (try dsimp only); omega) | exact off1_ne (by assumption) (by k_mem) | exact Ne.symm (off1_ne (by assumption) (by k_mem)))
  k_with "eval ListComp" => ((k_here; (with_reducible show wpAny _ _ (eval (PySem.Expr.ListComp _ [⟨PySem.Expr.Name _ _, _, [_], 0⟩] _ _) _) _ _ _); k_dflt (refine LCt.ListComp_T (F₀ := by k_asm) (by rfl) (by decide) (by rfl) (by decide) (by rfl) ?_)))
  k_with "CompSrcT" => (refine stop9 ?_)
  k_with "S_laps" => ((intro Z1iXf; obtain ⟨Z1iXa, Z1iXj, Z1iXi, Z1iXh, Z1iXc, Z1iXd, Z1iXe⟩ := Z1iXf; subst Z1iXh; (obtain ⟨Z1iXb, Z1iXg⟩ := news_add (by k_asm) (by k_asm) (by k_asm) Z1iXc Z1iXd)))
  k_with "S_il" => (((rename News _ _ _ _ => Z1jXa); exact ⟨_, News.get Z1jXa (by k_mem), rfl, _, rfl⟩))
  k_with "execs cons" => (((have _sf : StopH := by assumption); clear _sf; refine stop9 ?_))
  k_with "exec For Tuple Name cons nil" => ((k_here; k_dflt (refine For_ownA ?_ (hE := hE))))
  k_with "pyIter ref" => (refine stop9 ?_)
  trivial
theorem main15 {w : World} {p loose mean mg mb} {dp un : Nat} {gd : Option (List Code)} {L fa : Addr} {ccd : Value} {outer : List Env} {A₀ : Around} {base g : Heap} {m : PySem.Str → Option Value} {s : Shared} {Q : Flow → Shared → Prop} {E : Value → Shared → Prop} (K : List (Addr × Obj)) (o2 o3 o4 o8 : Obj) (x0 x1 : List Nat) (e0 : x0.length ≤ 5) (e1 : x1.length ≤ 5) (fw : Nat) (wr : List Nat → List Nat) (mk f0 f1 f2 : List Nat) (hwr : (fw, wr, mk, f0, f1, f2) ∈ wrT) (d4 : o4.data = .cell (some (.ref fw))) (la lb : Nat) (ta tb : Tok) (d2 : o2.data = .cell (some (.str (S [la]) ta))) (d3 : o3.data = .cell (some (.str (S [lb]) tb))) (r : RP) (ok : r.Ok) (kp : Nat) (ln : Int) (tz : Tok) (lf : List Value) (kl : Nat) (d8 : o8.data = .cell (some (.ref r.aR))) (Hd : Addr) (b0 b1 : Tok) (Wd : Addr) (c0 c1 : Tok) (Du : Addr) (us : List Value) (ku : Nat) (utl : List (Addr × Obj)) (hdu : FoundAre us utl (dueL x0 x1))
    (mH : (Hd, listOf [.str (S x0) b0, .str (S x1) b1].toArray 2) ∈ K) (mW : (Wd, listOf [.str (S (wr x0)) c0, .str (S (wr x1)) c1].toArray 2) ∈ K) (m8 : (L + 1 + 1 + 1 + 1 + 1 + 1 + 1 + 1, o8) ∈ K) (m4 : (L + 1 + 1 + 1 + 1, o4) ∈ K) (m3 : (L + 1 + 1 + 1, o3) ∈ K) (m2 : (L + 1 + 1, o2) ∈ K) (mD : (Du, listOf us.toArray ku) ∈ K) (mU : ∀ q ∈ utl, q ∈ K) (hoff : OffR w r K)
    (ra : R8 la) (rb : R8 lb) (hl0 : (wr x0).length ≤ 900) (hl1 : (wr x1).length ≤ 900) (hone : dueL x0 x1 = [] ∨ ∃ wd b, dueL x0 x1 = [(wd, b)] ∧ LoopOk wr la lb x0 x1 wd b) (hsg : SignsOk wr la lb) (n_heard : m (PySem.Str.ofString "heard") = some (.ref Hd)) (n_written : m (PySem.Str.ofString "written") = some (.ref Wd)) (n_due : m (PySem.Str.ofString "due") = some (.ref Du))  (hE : PassesOwn (model Challenge.pw_sc0056_02 w) (lawA dp un gd L fa ccd outer) (lawEnv L fa ccd) E)
    (hB : Below A₀ base outer g) (hF : Fr g L s.heap m) (hX : (hd.heap_1 w.params).In g) (hT : Top p loose mean mg mb g) (hr : dp + 30 < recursionLimit) (hu : un + 16 * 30 < cLine) (hC : CodeHd base 109 107) (hN : News g L s.heap (rdr 153 w.params r ln tz [] kp lf kl ++ K))
    (next : ∀ (h' : Heap) (dr' : Drawn) (tk' kp' : Nat) (m' : PySem.Str → Option Value), Fr g L h' m' → News g L h' (rdr 153 w.params r ln tz [] kp' lf kl ++ K) →
      wpAny (model Challenge.pw_sc0056_02 w) (lawA dp un gd L fa ccd outer) (execs (lawBody.drop 16) (lawEnv L fa ccd)) Q E { s with heap := h', drawn := dr', toks := tk' }) :
    wpAny (model Challenge.pw_sc0056_02 w) (lawA dp un gd L fa ccd outer) (execs (lawBody.drop 15) (lawEnv L fa ccd)) Q E s := by
  have l0 : (hidL x0).length ≤ 900 := by rw [hid_len]; omega
  have l1 : (hidL x1).length ≤ 900 := by rw [hid_len]; omega
  obtain ⟨hp, gns, dr, tk, os⟩ := s
  conv in (List.drop _ lawBody) => whnf
  (try clear sfl)
  walk1
  ((try clear sfl); have sfl : StopH := trivial)
  k_steps
  refine Stop9.go ?_
  rename Fr _ _ _ _ => F1
  rename News _ _ _ _ => N1
  rcases hone with hz | ⟨wd, bb, hz, LO⟩
  · rw [hz] at hdu
    obtain rfl := found_nil hdu
    refine loop_none rfl F1 N1 ⟨_, (N1 _ (List.mem_append_right _ mD)).1, rfl, _, rfl⟩ fun h tk F N => ?_
    k_steps
    refine Stop9.go ?_
    exact next _ _ _ kp _ F N
  · rw [hz] at hdu
    obtain ⟨T, U, t, y1, y2, tl, rfl, rfl⟩ := found_one hdu
    have mT : (T, tupObj [.str (S wd) t, .ref U]) ∈ K := mU _ (.head _)
    have mS : (U, tupObj [.str (S (sayL bb)) y1, .str (S (sayL (!bb))) y2]) ∈ K := mU _ (.tail _ (.head _))
    refine loop_one rfl F1 (news_p (.tail _ (List.mem_append_right _ mD)) (news_p (List.mem_append_right _ mT) N1)) (by rfl) (by rfl) (by rfl) fun It oI h tk hIt F N => ?_
    have hIr : ∀ ln tz pb kp lf kl, It ∉ (rdr 153 w.params r ln tz pb kp lf kl).map (·.1) := fun ln tz pb kp lf kl => notin_gt ok (hIt (r.aP, _) (.tail _ (.tail _ (.head _))))
    have hIk : ∀ p ∈ K, p.1 ≠ It := fun p hp => Nat.ne_of_lt (hIt p (.tail _ (.tail _ (List.mem_append_right _ hp))))
    clear hIt F1 N1
    replace N : News g L h (rdr 153 w.params r ln tz [] kp lf kl ++ (It, oI) :: K) := news_sub N fun q hq => by
      rcases List.mem_append.mp hq with hq | hq
      · exact .tail _ (.tail _ (.tail _ (List.mem_append_left _ hq)))
      rcases List.mem_cons.mp hq with rfl | hq
      · exact .head _
      · exact .tail _ (.tail _ (.tail _ (List.mem_append_right _ hq)))
    have hoff1 : OffR w r ((It, oI) :: K) := OffR.cons (fun q hq ln tz pb kp lf kl => by rw [List.mem_singleton.mp hq]; exact hIr ln tz pb kp lf kl) hoff
    generalize hm0 : (fun z => if z = (PySem.Str.ofString "said") then some (Value.ref U) else if z = (PySem.Str.ofString "word") then some (Value.str (S wd) t) else m z) = mm at F
    have n_said : mm (PySem.Str.ofString "said") = some (Value.ref U) := by rw [← hm0]; exact if_pos rfl
    have n_word : mm (PySem.Str.ofString "word") = some (Value.str (S wd) t) := by rw [← hm0]; exact (if_neg (by decide)).trans (if_pos rfl)
    replace n_heard : mm (PySem.Str.ofString "heard") = some (Value.ref Hd) := by rw [← hm0]; exact ((if_neg (by decide)).trans (if_neg (by decide))).trans n_heard
    replace n_written : mm (PySem.Str.ofString "written") = some (Value.ref Wd) := by rw [← hm0]; exact ((if_neg (by decide)).trans (if_neg (by decide))).trans n_written
    clear hm0 n_due
    show wpAny _ _ (execs (forBody.drop 0) _) _ _ _
    refine body0 (rdr 153 w.params r ln tz [] kp lf kl ++ (It, oI) :: K) x0 x1 e0 e1 Hd b0 b1 n_heard hB F hX hT hr hu hC (news_p (List.mem_append_right _ (.tail _ mH)) N) fun h tk m11 Hh g0 g1 o9 em F N => ?_
    have n_hidden := m_this em
    replace n_heard := m_other em (by decide) n_heard
    replace n_word := m_other em (by decide) n_word
    replace n_said := m_other em (by decide) n_said
    replace n_written := m_other em (by decide) n_written
    clear em
    replace N : News g L h (rdr 153 w.params r ln tz [] kp lf kl ++ (Hh, listOf [.str (S (hidL x0)) g0, .str (S (hidL x1)) g1].toArray 2) :: (It, oI) :: K) := news_k (news_sub N fun q hq => by
      rcases List.mem_cons.mp hq with rfl | hq
      · exact .head _
      · exact .tail _ (.tail _ hq))
    have hoff2 : OffR w r ((Hh, listOf [.str (S (hidL x0)) g0, .str (S (hidL x1)) g1].toArray 2) :: (It, oI) :: K) := OffR.cons (offR_ne (ln := ln) (tz := tz) (pb := []) (kp := kp) (lf := lf) (kl := kl) fun q hq p hp => by rw [List.mem_singleton.mp hq]; exact off1_mem o9 p (.tail _ (List.mem_append_left _ hp))) hoff1
    clear o9
    generalize hK2 : (Hh, listOf [.str (S (hidL x0)) g0, .str (S (hidL x1)) g1].toArray 2) :: (It, oI) :: K = K2 at N hoff2
    have kK : ∀ q ∈ K, q ∈ K2 := fun q hq => by rw [← hK2]; exact .tail _ (.tail _ hq)
    have kH : (Hh, listOf [.str (S (hidL x0)) g0, .str (S (hidL x1)) g1].toArray 2) ∈ K2 := by rw [← hK2]; exact .head _
    have kI : (It, oI) ∈ K2 := by rw [← hK2]; exact .tail _ (.head _)
    clear hK2 hoff1
    have inK : ∀ {q} {kp}, q ∈ K2 → q ∈ rdr 153 w.params r ln tz [] kp lf kl ++ K2 := fun hq => List.mem_append_right _ hq
    refine body1 K2 x0 x1 r ok kp ln tz lf kl o2 o3 o8 la lb ta tb d2 d3 Hh g0 g1 d8 wd t LO.ne LO.len l0 l1 (OffR.sub hoff2 ?sb1) (LO.s1 _) ?f46 ?f128 n_hidden n_word hB F hX hT hr hu hC (news_sub N ?sb2) fun h tk kp1 F N => ?_
    case sb1 =>
      intro q hq
      repeat (rcases List.mem_cons.mp hq with rfl | hq; · first | exact kH | exact kK _ (by assumption))
      exact hq
    case f46 => exact fun hm => three_P (P := fun c => c ≠ 46) (r8_46 ra) (r8_46 rb) (by decide) _ hm rfl
    case f128 => exact three_P (P := fun c => c < 128) (r8_lt ra) (r8_lt rb) (by decide)
    case sb2 =>
      intro q hq
      iterate 4 (rcases List.mem_cons.mp hq with rfl | hq; · first | exact inK kH | exact inK (kK _ (by assumption)))
      exact in_rd hq
    replace N := news_sub N (l' := rdr 153 w.params r ln tz [] kp1 lf kl ++ K2) (fun q hq => .tail _ (.tail _ (.tail _ (.tail _ (rd_in hq)))))
    refine body2 (rdr 153 w.params r ln tz [] kp1 lf kl ++ K2) x0 x1 Hh g0 g1 U bb y1 y2 wd t LO.ne (Nat.le_trans LO.len (by decide)) LO.free l0 l1 LO.y0 LO.y1 n_hidden n_word n_said hB F hX hT hr hu hC (news_p (.tail _ (inK kH)) (news_p (inK (kK _ mS)) N)) fun h tk F N => ?_
    replace N := news_tail (news_tail N)
    obtain ⟨c1', c2', hcm, hdm, hcd⟩ := hsg.two
    refine body3 o2 o3 o4 (rdr 153 w.params r ln tz [] kp1 lf kl ++ K2) fw wr mk f0 f1 f2 hwr d4 la lb ta tb d2 d3 c1' c2' hcm hdm hcd hsg.lt hsg.len hB F hX hT hr hu hC (news_p (.tail _ (.tail _ (inK (kK _ m4)))) (news_p (.tail _ (inK (kK _ m3))) (news_p (inK (kK _ m2)) N))) fun h dr tk m9 Ls lv lk ls hls hmm h12 hab em F N => ?_
    have n_letters := m_this em
    replace n_word := m_other em (by decide) n_word
    replace n_said := m_other em (by decide) n_said
    replace n_written := m_other em (by decide) n_written
    clear em
    replace hab := fun p hp => hab p (.tail _ (.tail _ (.tail _ hp)))
    refine body4 K2 x0 x1 r ok kp1 ln tz lf kl o8 Wd c0 c1 wr Ls lv lk ls hls h12 (hab (r.aP, _) (.head _)) (fun p hp => ?ap) d8 wd t LO.ne LO.len hl0 hl1 (OffR.sub hoff2 ?sb3) (LO.s4 _) (fun hm => hsg.free (hmm _ hm)) (fun c hc => hsg.lt c (hmm c hc)) n_written n_letters n_word hB F hX hT hr hu hC (news_sub N ?sb4) fun h tk kp2 F N => ?_
    case ap =>
      refine Nat.ne_of_lt (hab p ?_)
      rcases List.mem_cons.mp hp with rfl | hp
      · exact inK (kK _ mW)
      rcases List.mem_cons.mp hp with rfl | hp
      · exact inK (kK _ m8)
      · exact inK hp
    case sb3 =>
      intro q hq
      rcases List.mem_cons.mp hq with rfl | hq
      · exact kK _ mW
      rcases List.mem_cons.mp hq with rfl | hq
      · exact kK _ m8
      · exact hq
    case sb4 =>
      intro q hq
      rcases List.mem_cons.mp hq with rfl | hq
      · exact .head _
      rcases List.mem_cons.mp hq with rfl | hq
      · exact .tail _ (.tail _ (.tail _ (.tail _ (inK (kK _ mW)))))
      rcases List.mem_cons.mp hq with rfl | hq
      · exact .tail _ (.tail _ (.tail _ (.tail _ (inK (kK _ m8)))))
      · exact .tail _ (.tail _ (.tail _ (.tail _ (in_rd hq))))
    replace N := news_sub N (l' := rdr 153 w.params r ln tz [] kp2 lf kl ++ K2) (fun q hq => .tail _ (.tail _ (.tail _ (rd_in hq))))
    have z1 : (wr [la]).length ≤ 20 := by have := hsg.len; rw [List.length_append] at this; omega
    have z2 : (wr [lb]).length ≤ 20 := by have := hsg.len; rw [List.length_append] at this; omega
    refine body5 o2 o3 o4 (rdr 153 w.params r ln tz [] kp2 lf kl ++ K2) fw wr mk f0 f1 f2 hwr d4 la lb ta tb d2 d3 wd t LO.len z1 z2 (fun b hb => hsg.lt b (List.mem_append_left _ hb)) (fun b hb => hsg.lt b (List.mem_append_right _ hb)) n_word hB F hX hT hr hu hC (news_p (.tail _ (.tail _ (inK (kK _ m4)))) (news_p (.tail _ (inK (kK _ m3))) (news_p (inK (kK _ m2)) N))) fun h tk m10 tn em F N => ?_
    have n_name := m_this em
    replace n_said := m_other em (by decide) n_said
    replace n_written := m_other em (by decide) n_written
    clear em
    replace N := news_tail (news_tail (news_tail N))
    refine body6 (rdr 153 w.params r ln tz [] kp2 lf kl ++ K2) x0 x1 Wd c0 c1 wr U bb y1 y2 (wd.flatMap (ownN wr la lb)) tn LO.nne LO.nlen LO.nfree hl0 hl1 LO.z0 LO.z1 n_written n_name n_said hB F hX hT hr hu hC (news_p (.tail _ (inK (kK _ mW))) (news_p (inK (kK _ mS)) N)) fun h tk F N => ?_
    replace N := news_tail (news_tail N)
    refine ⟨h, dr, tk, _, rdr 153 w.params r ln tz [] kp2 lf kl ++ K, rfl, F, news_sub N ?sb5, fun p hp => ?ne, fun h2 tk2 F2 N2 => ?_⟩
    case sb5 =>
      intro q hq
      rcases List.mem_cons.mp hq with rfl | hq
      · exact inK kI
      rcases List.mem_cons.mp hq with rfl | hq
      · exact inK (kK _ mD)
      rcases List.mem_append.mp hq with hq | hq
      · exact List.mem_append_left _ hq
      · exact inK (kK _ hq)
    case ne =>
      rcases List.mem_append.mp hp with hp | hp
      · exact fun e => hIr ln tz [] kp2 lf kl (e ▸ List.mem_map.mpr ⟨p, hp, rfl⟩)
      · exact hIk p hp
    k_steps
    refine Stop9.go ?_
    exact next h2 dr tk2 kp2 _ F2 N2
end
section
open PySem PySem.W PyProof.Rows PySem.Calls
noncomputable def wrd : Nat → List (List Nat)
  | 0 => [[]]
  | n + 1 => (wrd n).flatMap fun x => [0 :: x, 1 :: x]
noncomputable def upTo (n : Nat) : List (List Nat) := (List.range n).flatMap wrd
noncomputable def chk (n : Nat) (H T : List Nat) : Bool :=
  match soonL [0, 1] H T (n / 2 + 1) with
  | [] => H == T
  | (w, b) :: _ => !w.isEmpty && decide (w.length < 4) && (subB w H == b) && (subB w T == !b) && (upTo 4).all fun v => !(v.length < w.length || (v.length == w.length && decide (v < w))) || (subB v H == subB v T)
noncomputable def chkAll (n : Nat) : Bool := (wrd n).all fun H => (wrd n).all fun T => chk n H T
theorem chk3 : chkAll 3 = true := by decide +kernel
theorem chk4 : chkAll 4 = true := by decide +kernel
theorem chk5 : chkAll 5 = true := by decide +kernel
theorem chk_n {n : Nat} (h3 : 3 ≤ n) (h5 : n ≤ 5) : chkAll n = true := by
  have : n = 3 ∨ n = 4 ∨ n = 5 := by omega
  rcases this with rfl | rfl | rfl
  · exact chk3
  · exact chk4
  · exact chk5
noncomputable def lay (p q c : Nat) : Nat := if c = 0 then p else q + (c - 1)
theorem lay_lt {p q : Nat} (h : p < q) {a b : Nat} (hab : a < b) : lay p q a < lay p q b := by
  unfold lay
  rw [if_neg (by omega : ¬ b = 0)]
  split <;> omega
theorem lay_inj {p q : Nat} (h : p < q) {a b : Nat} (e : lay p q a = lay p q b) : a = b := by
  rcases Nat.lt_trichotomy a b with hl | hl | hl
  · have := lay_lt h hl; omega
  · exact hl
  · have := lay_lt h hl; omega
theorem subB_map {f : Nat → Nat} (hf : ∀ a b, f a = f b → a = b) : ∀ (w t : List Nat), subB (w.map f) (t.map f) = subB w t
  | [], t => by rw [List.map_nil, subB_nil, subB_nil]
  | c :: w, [] => rfl
  | c :: w, d :: t => by
    show (if f c = f d then subB (w.map f) (t.map f) else subB ((c :: w).map f) (t.map f)) = (if c = d then subB w t else subB (c :: w) t)
    by_cases h : c = d
    · rw [if_pos h, if_pos (congrArg f h), subB_map hf w t]
    · rw [if_neg h, if_neg (fun e => h (hf _ _ e)), subB_map hf (c :: w) t]
noncomputable def mapF (f : Nat → Nat) (l : FD) : FD := l.map fun p => (p.1.map f, p.2)
noncomputable def mapS (f : Nat → Nat) (st : List (List Nat) × FD) : List (List Nat) × FD := (st.1.map (List.map f), mapF f st.2)
theorem turn_map {f : Nat → Nat} (hf : ∀ a b, f a = f b → a = b) (H T g : List Nat) (st : List (List Nat) × FD) (c : Nat) : turnS (H.map f) (T.map f) (g.map f) (mapS f st) (f c) = mapS f (turnS H T g st c) := by
  have e : g.map f ++ [f c] = (g ++ [c]).map f := by simp
  unfold turnS
  rw [e, subB_map hf, subB_map hf]
  split
  · simp [mapS]
  · split
    · simp [mapS, mapF]
    · rfl
theorem fold_map {f : Nat → Nat} (hf : ∀ a b, f a = f b → a = b) (H T g : List Nat) : ∀ (ls : List Nat) (st : List (List Nat) × FD), (ls.map f).foldl (turnS (H.map f) (T.map f) (g.map f)) (mapS f st) = mapS f (ls.foldl (turnS H T g) st)
  | [], st => rfl
  | c :: ls, st => by
    rw [List.map_cons, List.foldl_cons, List.foldl_cons, turn_map hf, fold_map hf H T g ls]
theorem step_map {f : Nat → Nat} (hf : ∀ a b, f a = f b → a = b) (ls H T : List Nat) (most : Nat) : ∀ st : List (List Nat) × FD, stepS (ls.map f) (H.map f) (T.map f) most (mapS f st) = mapS f (stepS ls H T most st)
  | ([], fd) => rfl
  | (g :: q, fd) => by
    show (if (mapF f fd).isEmpty = true ∧ (g.map f).length < most then (ls.map f).foldl (turnS (H.map f) (T.map f) (g.map f)) (mapS f (q, fd)) else mapS f (q, fd)) = mapS f (if fd.isEmpty = true ∧ g.length < most then ls.foldl (turnS H T g) (q, fd) else (q, fd))
    have e : (mapF f fd).isEmpty = fd.isEmpty := by cases fd <;> rfl
    rw [e, List.length_map, fold_map hf]
    split <;> rfl
theorem run_map {f : Nat → Nat} (hf : ∀ a b, f a = f b → a = b) (ls H T : List Nat) (most : Nat) : ∀ (n : Nat) (st : List (List Nat) × FD), runS (ls.map f) (H.map f) (T.map f) most n (mapS f st) = mapS f (runS ls H T most n st)
  | 0, st => rfl
  | n + 1, st => by
    show runS _ _ _ most n (stepS (ls.map f) (H.map f) (T.map f) most (mapS f st)) = mapS f (runS ls H T most n (stepS ls H T most st))
    rw [step_map hf, run_map hf]
theorem soon_map {f : Nat → Nat} (hf : ∀ a b, f a = f b → a = b) (ls H T : List Nat) (most : Nat) : soonL (ls.map f) (H.map f) (T.map f) most = mapF f (soonL ls H T most) := by
  unfold soonL
  rw [List.length_map]
  exact congrArg Prod.snd (run_map hf ls H T most _ ([[]], []))
theorem fold_same {H T g : List Nat} {most : Nat} (h : ∀ v : List Nat, v.length ≤ most → subB v H = subB v T) (hg : g.length < most) : ∀ (ls : List Nat) (st : List (List Nat) × FD), st.2 = [] → (ls.foldl (turnS H T g) st).2 = []
  | [], st, e => e
  | c :: ls, st, e => by
    rw [List.foldl_cons]
    refine fold_same h hg ls _ ?_
    have := h (g ++ [c]) (by simp; omega)
    unfold turnS
    rw [this]
    cases subB (g ++ [c]) T
    · exact e
    · exact e
theorem run_same {ls H T : List Nat} {most : Nat} (h : ∀ v : List Nat, v.length ≤ most → subB v H = subB v T) : ∀ (n : Nat) (st : List (List Nat) × FD), st.2 = [] → (runS ls H T most n st).2 = []
  | 0, st, e => e
  | n + 1, ([], fd), e => run_same h n _ e
  | n + 1, (g :: q, fd), e => by
    refine run_same h n _ ?_
    show (if fd.isEmpty = true ∧ g.length < most then ls.foldl (turnS H T g) (q, fd) else (q, fd)).2 = []
    split
    · rename_i hh
      exact fold_same h hh.2 ls (q, fd) e
    · exact e
theorem soon_same {ls H T : List Nat} {most : Nat} (h : ∀ v : List Nat, v.length ≤ most → subB v H = subB v T) : (soonL ls H T most).take 1 = [] := by
  unfold soonL
  rw [run_same h _ ([[]], []) rfl]; rfl
theorem few {g : Nat → List Nat} : ∀ {x v : List Nat}, v.Sublist (x.flatMap g) → ∃ u : List Nat, u.Sublist x ∧ u.length ≤ v.length ∧ v.Sublist (u.flatMap g)
  | [], v, h => ⟨[], .slnil, Nat.zero_le _, h⟩
  | a :: x, v, h => by
    rw [List.flatMap_cons] at h
    obtain ⟨v1, v2, rfl, h1, h2⟩ := List.sublist_append_iff.mp h
    obtain ⟨u, u1, u2, u3⟩ := few h2
    rcases v1 with _ | ⟨c, v1⟩
    · exact ⟨u, u1.cons _, by simpa using u2, by simpa using u3⟩
    · refine ⟨a :: u, u1.cons_cons _, by simp only [List.length_cons, List.length_append]; omega, ?_⟩
      rw [List.flatMap_cons]
      exact h1.append u3
theorem flat_sub {g : Nat → List Nat} {u x : List Nat} (h : u.Sublist x) : (u.flatMap g).Sublist (x.flatMap g) := by
  induction h with
  | slnil => exact .slnil
  | cons a _ ih => rw [List.flatMap_cons]; exact ih.trans (List.sublist_append_right _ _)
  | cons_cons a _ ih => rw [List.flatMap_cons, List.flatMap_cons]; exact (List.Sublist.refl _).append ih
theorem subB_eq {v w t u : List Nat} (h : v.Sublist t ↔ w.Sublist u) : subB v t = subB w u := by
  have h1 := subB_iff v t
  have h2 := subB_iff w u
  cases e : subB v t <;> cases e2 : subB w u
  · rfl
  · have := h1.mpr (h.mpr (h2.mp e2)); rw [e] at this; cases this
  · have := h2.mpr (h.mp (h1.mp e)); rw [e2] at this; cases this
  · rfl
theorem dress_same {g : Nat → List Nat} {x y : List Nat} {k : Nat} (h : ∀ v : List Nat, v.length ≤ k → subB v x = subB v y) : ∀ v : List Nat, v.length ≤ k → subB v (x.flatMap g) = subB v (y.flatMap g) := by
  have key : ∀ {x y : List Nat}, (∀ v : List Nat, v.length ≤ k → subB v x = subB v y) → ∀ v : List Nat, v.length ≤ k → v.Sublist (x.flatMap g) → v.Sublist (y.flatMap g) := by
    intro x y h v hv hs
    obtain ⟨u, u1, u2, u3⟩ := few hs
    have := h u (by omega)
    rw [(subB_iff u x).mpr u1] at this
    exact u3.trans (flat_sub ((subB_iff u y).mp this.symm))
  intro v hv
  exact subB_eq ⟨key h v hv, key (fun v hv => (h v hv).symm) v hv⟩
end
section
open PySem PySem.W PyProof.Rows PySem.Calls
theorem parts_iff : ∀ (x r : List Nat), r ∈ partsL x ↔ r.Sublist x := by
  have key : ∀ (n : Nat) (x r : List Nat), x.length = n → (r ∈ partsL x ↔ r.Sublist x) := by
    intro n
    induction n with
    | zero =>
      intro x r hx
      have : x = [] := List.length_eq_zero_iff.mp hx
      subst this
      show r ∈ [[]] ↔ _
      rw [List.mem_singleton, List.sublist_nil]
    | succ n ih =>
      intro x r hx
      obtain ⟨y, c, rfl⟩ : ∃ y c, x = y ++ [c] := ⟨x.dropLast, x.getLast (by intro e; subst e; cases hx), (List.dropLast_concat_getLast _).symm⟩
      have hy : y.length = n := by simpa using hx
      rw [parts_snoc, List.mem_append, ih y r hy]
      constructor
      · rintro (h | h)
        · exact h.trans (List.sublist_append_left _ _)
        · obtain ⟨z, hz, rfl⟩ := List.mem_map.mp h
          exact ((ih y z hy).mp hz).append (List.Sublist.refl _)
      · intro h
        obtain ⟨r1, r2, rfl, h1, h2⟩ := List.sublist_append_iff.mp h
        have h3 : r2 = [] ∨ r2 = [c] := by
          rcases r2 with _ | ⟨d, r2⟩
          · exact .inl rfl
          · cases h2 with
            | cons _ h2 => cases h2
            | cons_cons _ h2 => cases h2; exact .inr rfl
        rcases h3 with rfl | rfl
        · rw [List.append_nil]; exact .inl h1
        · exact .inr (List.mem_map.mpr ⟨r1, (ih y r1 hy).mpr h1, rfl⟩)
  exact fun x r => key _ x r rfl
theorem parts_sub (x r : List Nat) : decide (r ∈ partsL x) = subB r x := by
  cases h : subB r x
  · exact decide_eq_false fun e => by rw [(subB_iff r x).mpr ((parts_iff x r).mp e)] at h; cases h
  · exact decide_eq_true ((parts_iff x r).mpr ((subB_iff r x).mp h))
theorem apart_mem {H T : List Nat} {p : Int × List Nat} : p ∈ apartL H T ++ apartL T H ↔ subB p.2 H ≠ subB p.2 T ∧ p.1 = ((p.2.length : Nat) : Int) := by
  have one : ∀ {H T : List Nat}, p ∈ apartL H T ↔ (subB p.2 H = true ∧ subB p.2 T = false) ∧ p.1 = ((p.2.length : Nat) : Int) := by
    intro H T
    unfold apartL
    rw [List.mem_map]
    constructor
    · rintro ⟨r, hr, rfl⟩
      obtain ⟨h1, h2⟩ := List.mem_filter.mp hr
      rw [parts_sub] at h2
      refine ⟨⟨?_, by simpa using h2⟩, rfl⟩
      rw [← parts_sub]; exact decide_eq_true h1
    · rintro ⟨⟨h1, h2⟩, h3⟩
      refine ⟨p.2, List.mem_filter.mpr ⟨?_, ?_⟩, Prod.ext h3.symm rfl⟩
      · rw [← parts_sub] at h1; exact of_decide_eq_true h1
      · rw [parts_sub, h2]; rfl
  rw [List.mem_append, one, one]
  constructor
  · rintro (⟨⟨h1, h2⟩, h3⟩ | ⟨⟨h1, h2⟩, h3⟩)
    · exact ⟨by rw [h1, h2]; decide, h3⟩
    · exact ⟨by rw [h1, h2]; decide, h3⟩
  · rintro ⟨h, h3⟩
    cases h1 : subB p.2 H <;> cases h2 : subB p.2 T
    · rw [h1, h2] at h; exact absurd rfl h
    · exact .inr ⟨⟨rfl, rfl⟩, h3⟩
    · exact .inl ⟨⟨rfl, rfl⟩, h3⟩
    · rw [h1, h2] at h; exact absurd rfl h
theorem best_spec {bt : Nat → Nat → Bool} (htr : ∀ i j k, bt i j = true → bt j k = true → bt i k = true) (hir : ∀ i, bt i i = false) : ∀ n, argBest bt n ≤ n ∧ ∀ i, i ≤ n → bt i (argBest bt n) = false
  | 0 => ⟨Nat.le_refl _, fun i hi => by have : i = 0 := by omega
                                        subst this; exact hir 0⟩
  | n + 1 => by
    obtain ⟨h1, h2⟩ := best_spec htr hir n
    show (if bt (n + 1) (argBest bt n) then n + 1 else argBest bt n) ≤ n + 1 ∧ ∀ i, i ≤ n + 1 → bt i (if bt (n + 1) (argBest bt n) then n + 1 else argBest bt n) = false
    cases hb : bt (n + 1) (argBest bt n)
    · simp only [Bool.false_eq_true, if_false]
      refine ⟨by omega, fun i hi => ?_⟩
      by_cases e : i = n + 1
      · subst e; exact hb
      · exact h2 i (by omega)
    · simp only [if_true]
      refine ⟨Nat.le_refl _, fun i hi => ?_⟩
      by_cases e : i = n + 1
      · subst e; exact hir _
      · cases hc : bt i (n + 1)
        · rfl
        · have := htr _ _ _ hc hb
          rw [h2 i (by omega)] at this; cases this
theorem ltP_trans {a b c : Int × List Nat} (h1 : ltP a b = true) (h2 : ltP b c = true) : ltP a c = true := by
  simp only [ltP, Bool.or_eq_true, Bool.and_eq_true, decide_eq_true_eq] at h1 h2 ⊢
  rcases h1 with h1 | ⟨h1, h3⟩ <;> rcases h2 with h2 | ⟨h2, h4⟩
  · exact .inl (by omega)
  · exact .inl (by omega)
  · exact .inl (by omega)
  · exact .inr ⟨by omega, List.lt_trans h3 h4⟩
theorem ltP_irr (a : Int × List Nat) : ltP a a = false := by
  simp only [ltP, Bool.or_eq_false_iff, Bool.and_eq_false_iff, decide_eq_false_iff_not]
  exact ⟨by omega, .inr (List.lt_irrefl _)⟩
theorem min_spec {l : List (Int × List Nat)} (h : l ≠ []) : minP l ∈ l ∧ ∀ p ∈ l, ltP p (minP l) = false := by
  have hpos := List.length_pos_iff.mpr h
  obtain ⟨h1, h2⟩ := best_spec (bt := fun i j => ltP (l.getD i (0, [])) (l.getD j (0, []))) (fun i j k => ltP_trans) (fun i => ltP_irr _) (l.length - 1)
  have e : ∀ i, i < l.length → l.getD i (0, []) ∈ l := fun i hi => by
    rw [List.getD_eq_getElem?_getD, List.getElem?_eq_getElem hi]; exact List.getElem_mem hi
  refine ⟨e _ (by omega), fun p hp => ?_⟩
  obtain ⟨i, hi, rfl⟩ := List.getElem_of_mem hp
  have := h2 i (by omega)
  rw [List.getD_eq_getElem?_getD, List.getElem?_eq_getElem hi] at this
  exact this
theorem due_of {H T w : List Nat} {b : Bool} (h1 : subB w H = b) (h2 : subB w T = !b) (h3 : ∀ v : List Nat, v.length < w.length ∨ (v.length = w.length ∧ v < w) → subB v H = subB v T) : dueL H T = [(w, b)] := by
  have hm : (((w.length : Nat) : Int), w) ∈ apartL H T ++ apartL T H := apart_mem.mpr ⟨by rw [h1, h2]; cases b <;> decide, rfl⟩
  have hne : apartL H T ++ apartL T H ≠ [] := fun e => by rw [e] at hm; cases hm
  obtain ⟨q1, q2⟩ := min_spec hne
  have hw : (minP (apartL H T ++ apartL T H)).2 = w := by
    obtain ⟨r1, r2⟩ := apart_mem.mp q1
    generalize minP (apartL H T ++ apartL T H) = p at q1 q2 r1 r2
    obtain ⟨k, v⟩ := p
    dsimp only at r1 r2 ⊢
    subst r2
    have s1 := q2 _ hm
    simp only [ltP, Bool.or_eq_false_iff, Bool.and_eq_false_iff, decide_eq_false_iff_not] at s1
    have hn : ¬ (v.length < w.length ∨ (v.length = w.length ∧ v < w)) := fun e => r1 (h3 v e)
    have hlen : v.length = w.length := by
      have : ¬ v.length < w.length := fun e => hn (.inl e)
      omega
    rcases s1.2 with e | e
    · exact absurd (by omega) e
    · have hn2 : ¬ v < w := fun e2 => hn (.inr ⟨hlen, e2⟩)
      exact List.le_antisymm (List.not_lt.mp e) (List.not_lt.mp hn2)
  unfold dueL
  rw [if_neg hne, hw, parts_sub, h1]
theorem due_same (H : List Nat) : dueL H H = [] := by
  unfold dueL
  rw [if_pos]
  refine List.eq_nil_iff_forall_not_mem.mpr fun p hp => ?_
  exact (apart_mem.mp hp).1 rfl
end
section
open PySem PySem.W PyProof.Rows PySem.Calls
theorem lt_map {f : Nat → Nat} (hf : ∀ a b, a < b → f a < f b) : ∀ {a b : List Nat}, a < b → a.map f < b.map f := by
  intro a b h
  induction h with
  | nil => exact .nil
  | rel h => exact .rel (hf _ _ h)
  | cons h ih => exact .cons ih
theorem wrd_of {p q : Nat} : ∀ (n : Nat) (x : List Nat), x.length = n → (∀ c ∈ x, c = p ∨ c = q) → ∃ y ∈ wrd n, x = y.map (lay p q)
  | 0, x, hx, _ => ⟨[], by simp [wrd], List.length_eq_zero_iff.mp hx⟩
  | n + 1, [], hx, _ => by cases hx
  | n + 1, c :: x, hx, hc => by
    obtain ⟨y, h1, rfl⟩ := wrd_of n x (by simpa using hx) fun d hd => hc d (.tail _ hd)
    rcases hc c (.head _) with rfl | rfl
    · exact ⟨0 :: y, List.mem_flatMap.mpr ⟨y, h1, .head _⟩, by simp [lay]⟩
    · exact ⟨1 :: y, List.mem_flatMap.mpr ⟨y, h1, .tail _ (.head _)⟩, by simp [lay]⟩
theorem sub_letters {v x : List Nat} {P : Nat → Prop} (hx : ∀ c ∈ x, P c) (h : ¬ ∀ c ∈ v, P c) : subB v x = false := by
  cases e : subB v x
  · rfl
  · exact absurd (fun c hc => hx c (((subB_iff v x).mp e).subset hc)) h
theorem simon {p q n : Nat} (hpq : p < q) (h3 : 3 ≤ n) (h5 : n ≤ 5) {x y : List Nat} (hx : x.length = n) (hy : y.length = n) (lx : ∀ c ∈ x, c = p ∨ c = q) (ly : ∀ c ∈ y, c = p ∨ c = q) :
    (x = y ∧ (soonL [p, q] x y (n / 2 + 1)).take 1 = []) ∨ ∃ w b, (soonL [p, q] x y (n / 2 + 1)).take 1 = [(w, b)] ∧ w ≠ [] ∧ w.length < 4 ∧ (∀ c ∈ w, c = p ∨ c = q) ∧ subB w x = b ∧ subB w y = !b ∧ ∀ v : List Nat, v.length < w.length ∨ (v.length = w.length ∧ v < w) → subB v x = subB v y := by
  obtain ⟨x', mx, rfl⟩ := wrd_of n x hx lx
  obtain ⟨y', my, rfl⟩ := wrd_of n y hy ly
  have hinj : ∀ a b, lay p q a = lay p q b → a = b := fun a b => lay_inj hpq
  have hc : chk n x' y' = true := List.all_eq_true.mp (List.all_eq_true.mp (chk_n h3 h5) x' mx) y' my
  have e2 : [p, q] = [0, 1].map (lay p q) := by simp [lay]
  rw [e2, soon_map hinj]
  unfold chk at hc
  cases hs : soonL [0, 1] x' y' (n / 2 + 1) with
  | nil =>
    rw [hs] at hc
    left
    have : x' = y' := by simpa using hc
    subst this
    exact ⟨rfl, rfl⟩
  | cons wb r =>
    obtain ⟨w, b⟩ := wb
    rw [hs] at hc
    simp only [Bool.and_eq_true, decide_eq_true_eq, beq_iff_eq, Bool.not_eq_true', List.isEmpty_eq_false_iff] at hc
    obtain ⟨⟨⟨⟨c1, c2⟩, c3⟩, c4⟩, c5⟩ := hc
    right
    have lw : ∀ c ∈ w.map (lay p q), c = p ∨ c = q := by
      refine fun c hc => Classical.byContradiction fun hn => ?_
      cases b
      · have := sub_letters (v := w.map (lay p q)) ly (fun h => hn (h c hc))
        rw [subB_map hinj, c4] at this; cases this
      · have := sub_letters (v := w.map (lay p q)) lx (fun h => hn (h c hc))
        rw [subB_map hinj, c3] at this; cases this
    refine ⟨w.map (lay p q), b, rfl, fun e => c1 (List.map_eq_nil_iff.mp e), by rw [List.length_map]; exact c2, lw, by rw [subB_map hinj]; exact c3, by rw [subB_map hinj]; exact c4, fun v hv => ?_⟩
    by_cases hl : ∀ c ∈ v, c = p ∨ c = q
    · obtain ⟨v', mv, ev⟩ := wrd_of v.length v rfl hl
      have hlen : v.length = v'.length := by rw [ev, List.length_map]
      rw [List.length_map] at hv
      have m4 : v' ∈ upTo 4 := List.mem_flatMap.mpr ⟨v.length, List.mem_range.mpr (by omega), mv⟩
      have h9 := List.all_eq_true.mp c5 v' m4
      have hcond : (decide (v'.length < w.length) || (v'.length == w.length && decide (v' < w))) = true := by
        rcases hv with hv | ⟨hv, hv2⟩
        · rw [decide_eq_true (by omega)]; rfl
        · have hlt : v' < w := by
            refine Classical.byContradiction fun hn => ?_
            rcases List.le_iff_lt_or_eq.mp (List.not_lt.mp hn) with h | h
            · have := lt_map (f := lay p q) (fun a b => lay_lt hpq) h
              rw [← ev] at this
              exact List.lt_irrefl _ (List.lt_trans this hv2)
            · rw [ev, h] at hv2
              exact List.lt_irrefl _ hv2
          have : (v'.length == w.length) = true := by rw [beq_iff_eq]; omega
          rw [this, decide_eq_true hlt]; simp
      rw [hcond] at h9
      rw [ev, subB_map hinj, subB_map hinj]
      simpa using h9
    · rw [sub_letters lx hl, sub_letters ly hl]
theorem lohi {a b : Nat} (h : a ≠ b) : lo2 a b < hi2 a b := by unfold lo2 hi2; split <;> omega
theorem lohi_or {a b c : Nat} (h : c = a ∨ c = b) : c = lo2 a b ∨ c = hi2 a b := by unfold lo2 hi2; split <;> omega
theorem lohi_or' {a b c : Nat} (h : c = lo2 a b ∨ c = hi2 a b) : c = a ∨ c = b := by unfold lo2 hi2 at h; split at h <;> omega
theorem plain1 {la lb n : Nat} (hab : la ≠ lb) (h3 : 3 ≤ n) (h5 : n ≤ 5) {x y : List Nat} (hx : x.length = n) (hy : y.length = n) (lx : ∀ c ∈ x, c = la ∨ c = lb) (ly : ∀ c ∈ y, c = la ∨ c = lb) :
    (soonL [lo2 la lb, hi2 la lb] x y (n / 2 + 1)).take 1 = dueL x y ∧ (dueL x y = [] ∨ ∃ w b, dueL x y = [(w, b)] ∧ w ≠ [] ∧ w.length < 4 ∧ (∀ c ∈ w, c = la ∨ c = lb) ∧ subB w x = b ∧ subB w y = !b ∧ ∀ v : List Nat, v.length ≤ w.length - 1 → subB v x = subB v y) := by
  rcases simon (lohi hab) h3 h5 hx hy (fun c hc => lohi_or (lx c hc)) (fun c hc => lohi_or (ly c hc)) with ⟨rfl, h⟩ | ⟨w, b, h, h1, h2, hl, h4, h5, h6⟩
  · rw [h, due_same]; exact ⟨rfl, .inl rfl⟩
  · have e := due_of h4 h5 h6
    rw [h, e]
    refine ⟨rfl, .inr ⟨w, b, rfl, h1, h2, fun c hc => lohi_or' (hl c hc), h4, h5, fun v hv => h6 v (.inl ?_)⟩⟩
    have := List.length_pos_iff.mpr h1
    omega
theorem hid_filter {x : List Nat} (h : ∀ c ∈ x, c ≠ 92) : (hidL x).filter (fun c => !decide (c = 92)) = x := by
  unfold hidL
  induction x with
  | nil => rfl
  | cons a r ih =>
    rw [List.flatMap_cons, List.filter_append, ih fun c hc => h c (.tail _ hc)]
    have : a ≠ 92 := h a (.head _)
    simp [this]
theorem filter_own {P : Nat → Bool} {w : List Nat} (h : ∀ c ∈ w, P c = true) : w.filter P = w := List.filter_eq_self.mpr h
theorem dress_iff {P : Nat → Bool} {w x y : List Nat} (hw : ∀ c ∈ w, P c = true) (hf : y.filter P = x) : w.Sublist y ↔ w.Sublist x := by
  constructor
  · intro h
    have := h.filter P
    rwa [filter_own hw, hf] at this
  · intro h
    exact h.trans (hf ▸ List.filter_sublist)
theorem hid_sub {w x : List Nat} (hw : ∀ c ∈ w, c ≠ 92) (hx : ∀ c ∈ x, c ≠ 92) : subB w (hidL x) = subB w x :=
  subB_eq (dress_iff (P := fun c => !decide (c = 92)) (fun c hc => by simp [hw c hc]) (hid_filter hx))
theorem subB_mapOn {f : Nat → Nat} : ∀ (w t : List Nat), (∀ a ∈ w, ∀ b ∈ t, f a = f b → a = b) → subB (w.map f) (t.map f) = subB w t
  | [], t, _ => by rw [List.map_nil, subB_nil, subB_nil]
  | c :: w, [], _ => rfl
  | c :: w, d :: t, hf => by
    show (if f c = f d then subB (w.map f) (t.map f) else subB ((c :: w).map f) (t.map f)) = (if c = d then subB w t else subB (c :: w) t)
    by_cases h : c = d
    · rw [if_pos h, if_pos (congrArg f h), subB_mapOn w t fun a ha b hb => hf a (.tail _ ha) b (.tail _ hb)]
    · rw [if_neg h, if_neg (fun e => h (hf c (.head _) d (.head _) e)), subB_mapOn (c :: w) t fun a ha b hb => hf a ha b (.tail _ hb)]
end
section
open PySem PySem.W PyProof.Rows PySem.Calls
noncomputable def ownOk (wr : List Nat → List Nat) (a b : Nat) : Bool :=
  match ownL (wr [a]) (wr [b]), ownL (wr [b]) (wr [a]) with
  | [e], [f] => !(e == f) && !(e == 46) && !(f == 46) && ((wr [a]).filter fun d => d == e || d == f) == [e] && ((wr [b]).filter fun d => d == e || d == f) == [f] && (wr [a] ++ wr [b]).all (fun c => decide (c < 128) && !(c == 46)) && decide ((wr [a] ++ wr [b]).length ≤ 12)
  | _, _ => false
noncomputable def r8s : List Nat := [38, 60, 62, 34, 13, 10, 9, 122]
theorem own_all : (wrT.all fun t => r8s.all fun a => r8s.all fun b => a == b || ownOk t.2.1 a b) = true := by decide +kernel
theorem r8_mem {c : Nat} (h : R8 c) : c ∈ r8s := by
  unfold R8 at h
  rcases h with rfl | rfl | rfl | rfl | rfl | rfl | rfl | rfl <;> simp [r8s]
theorem own_of {fw : Nat} {wr : List Nat → List Nat} {mk f0 f1 f2 : List Nat} (hw : (fw, wr, mk, f0, f1, f2) ∈ wrT) {a b : Nat} (ra : R8 a) (rb : R8 b) (hab : a ≠ b) :
    ∃ e f, ownL (wr [a]) (wr [b]) = [e] ∧ ownL (wr [b]) (wr [a]) = [f] ∧ e ≠ f ∧ e ≠ 46 ∧ f ≠ 46 ∧ ((wr [a]).filter fun d => d == e || d == f) = [e] ∧ ((wr [b]).filter fun d => d == e || d == f) = [f] ∧ (∀ c ∈ wr [a] ++ wr [b], c < 128 ∧ c ≠ 46) ∧ (wr [a] ++ wr [b]).length ≤ 12 := by
  have h1 := List.all_eq_true.mp (List.all_eq_true.mp (List.all_eq_true.mp own_all _ hw) a (r8_mem ra)) b (r8_mem rb)
  rw [show (a == b) = false by simpa using hab, Bool.false_or] at h1
  replace h1 : ownOk wr a b = true := h1
  unfold ownOk at h1
  split at h1
  · rename_i e f h2 h3
    simp only [Bool.and_eq_true, Bool.not_eq_true', beq_eq_false_iff_ne, beq_iff_eq, decide_eq_true_eq, List.all_eq_true] at h1
    obtain ⟨⟨⟨⟨⟨⟨q1, q2⟩, q3⟩, q4⟩, q5⟩, q6⟩, q7⟩ := h1
    exact ⟨e, f, h2, h3, q1, q2, q3, q4, q5, q6, q7⟩
  · cases h1
theorem plain3 {fw : Nat} {wr : List Nat → List Nat} {mk f0 f1 f2 : List Nat} (hw : (fw, wr, mk, f0, f1, f2) ∈ wrT) {a b : Nat} (ra : R8 a) (rb : R8 b) (hab : a ≠ b) : SignsOk wr a b := by
  obtain ⟨e, f, _, _, q1, q2, q3, q4, q5, q6, q7⟩ := own_of hw ra rb hab
  refine ⟨⟨e, f, ?_, ?_, q1⟩, fun c hc => (q6 c hc).1, fun hm => (q6 _ hm).2 rfl, q7⟩
  · exact List.mem_append_left _ (List.mem_filter.mp (q4 ▸ List.mem_singleton.mpr rfl : e ∈ (wr [a]).filter fun d => d == e || d == f)).1
  · exact List.mem_append_right _ (List.mem_filter.mp (q5 ▸ List.mem_singleton.mpr rfl : f ∈ (wr [b]).filter fun d => d == e || d == f)).1
theorem wr_one {fw : Nat} {wr : List Nat → List Nat} {mk f0 f1 f2 : List Nat} (hw : (fw, wr, mk, f0, f1, f2) ∈ wrT) {c : Nat} (rc : R8 c) : wr [c] = wrL mk f0 f1 f2 c := by
  rw [wr_eqB hw (x := [c]) (by intro d hd; rw [List.mem_singleton.mp hd]; exact rc)]
  simp
theorem name_filter {g : Nat → List Nat} {e : Nat → Nat} {P : Nat → Bool} : ∀ {x : List Nat}, (∀ c ∈ x, (g c).filter P = [e c]) → (x.flatMap g).filter P = x.map e
  | [], _ => rfl
  | a :: r, h => by
    rw [List.flatMap_cons, List.filter_append, h a (.head _), name_filter fun c hc => h c (.tail _ hc)]; rfl
theorem flat_one {g : Nat → List Nat} {e : Nat → Nat} : ∀ {x : List Nat}, (∀ c ∈ x, g c = [e c]) → x.flatMap g = x.map e
  | [], _ => rfl
  | a :: r, h => by
    rw [List.flatMap_cons, h a (.head _), flat_one fun c hc => h c (.tail _ hc)]; rfl
theorem plain2 {fw : Nat} {wr : List Nat → List Nat} {mk f0 f1 f2 : List Nat} (hw : (fw, wr, mk, f0, f1, f2) ∈ wrT) {la lb n : Nat} (ra : R8 la) (rb : R8 lb) (hab : la ≠ lb) (h3 : 3 ≤ n) (h5 : n ≤ 5) {x y : List Nat} (hx : x.length = n) (hy : y.length = n) (lx : ∀ c ∈ x, c = la ∨ c = lb) (ly : ∀ c ∈ y, c = la ∨ c = lb) :
    dueL x y = [] ∨ ∃ w b, dueL x y = [(w, b)] ∧ LoopOk wr la lb x y w b := by
  rcases (plain1 hab h3 h5 hx hy lx ly).2 with h | ⟨w, b, h, h1, h2, hl, hb, hb2, hs⟩
  · exact .inl h
  refine .inr ⟨w, b, h, ?_⟩
  have rx := two_r8 ra rb lx
  have ry := two_r8 ra rb ly
  have rw' := two_r8 ra rb hl
  have f46 : ∀ {c}, R8 c → c ≠ 46 := fun {c} h e => by subst e; unfold R8 at h; omega
  obtain ⟨e, f, o1, o2, q1, q2, q3, q4, q5, q6, q7⟩ := own_of hw ra rb hab
  have en : ∀ c, c = la ∨ c = lb → ownN wr la lb c = [if c = la then e else f] := by
    intro c hc
    unfold ownN
    by_cases e1 : c = la
    · rw [if_pos e1, if_pos e1, o1]
    · rw [if_neg e1, if_neg e1, o2]
  have eg : ∀ c, c = la ∨ c = lb → (wrL mk f0 f1 f2 c).filter (fun d => d == e || d == f) = [if c = la then e else f] := by
    rintro c (rfl | rfl)
    · rw [if_pos rfl, ← wr_one hw ra, q4]
    · rw [if_neg (Ne.symm hab), ← wr_one hw rb, q5]
  have nm : w.flatMap (ownN wr la lb) = w.map fun c => if c = la then e else f := flat_one fun c hc => en c (hl c hc)
  have key : ∀ {t : List Nat}, (∀ c ∈ t, c = la ∨ c = lb) → (∀ c ∈ t, R8 c) → subB (w.flatMap (ownN wr la lb)) (wr t) = subB w t := by
    intro t lt rt
    rw [nm, wr_eqB hw rt]
    have s1 : subB (w.map fun c => if c = la then e else f) (t.flatMap (wrL mk f0 f1 f2)) = subB (w.map fun c => if c = la then e else f) (t.map fun c => if c = la then e else f) := by
      refine subB_eq (dress_iff (P := fun d => d == e || d == f) (fun c hc => ?_) (name_filter fun c hc => eg c (lt c hc)))
      obtain ⟨d, _, rfl⟩ := List.mem_map.mp hc
      split <;> simp
    rw [s1]
    refine subB_mapOn w t fun a ha b hb hab2 => ?_
    have h1 := hl a ha
    have h2 := lt b hb
    by_cases e1 : a = la <;> by_cases e2 : b = la
    · rw [e1, e2]
    · rw [if_pos e1, if_neg e2] at hab2; exact absurd hab2 q1
    · rw [if_neg e1, if_pos e2] at hab2; exact absurd hab2.symm q1
    · rcases h1 with h1 | h1
      · exact absurd h1 e1
      rcases h2 with h2 | h2
      · exact absurd h2 e2
      · rw [h1, h2]
  constructor
  · exact h1
  · omega
  · exact fun hm => f46 (rw' _ hm) rfl
  · exact fun ls => soon_same (dress_same hs)
  · rw [hid_sub (r8_92 rw') (r8_92 rx), hb]
  · rw [hid_sub (r8_92 rw') (r8_92 ry), hb2]
  · intro ls
    rw [wr_eqB hw rx, wr_eqB hw ry]
    exact soon_same (dress_same hs)
  · rw [nm]; exact fun h => h1 (List.map_eq_nil_iff.mp h)
  · rw [nm, List.length_map]; omega
  · rw [nm]
    intro hm
    obtain ⟨c, _, hc⟩ := List.mem_map.mp hm
    split at hc
    · exact q2 hc
    · exact q3 hc
  · rw [key lx rx, hb]
  · rw [key ly ry, hb2]
theorem plain4 {x y : List Nat} (lx : ∀ c ∈ x, c < 128) (ly : ∀ c ∈ y, c < 128) : Ok8F (dueL x y) := by
  intro p hp
  unfold dueL at hp
  split at hp
  · cases hp
  · rename_i hne
    rw [List.mem_singleton.mp hp]
    have hm := (min_spec hne).1
    generalize minP (apartL x y ++ apartL y x) = z at hm
    have h2 := (apart_mem.mp hm).1
    rw [List.all_eq_true]
    intro c hc
    have : c < 128 := by
      refine Classical.byContradiction fun hn => h2 ?_
      rw [sub_letters lx (fun h => hn (h c hc)), sub_letters ly (fun h => hn (h c hc))]
    exact decide_eq_true (by omega)
end
section
noncomputable abbrev EndsD (g : Heap) (L : Addr) (s : Shared) (Q : Flow → Shared → Prop) : Prop := ∀ h' dr m' tk ps, Fr g L h' m' → News g L h' [(107, tabObj ps)] → Q (.ret (.bool true)) { s with heap := h', drawn := dr, toks := tk }
theorem law_body {w : World} {p loose mean mg mb} {dp un : Nat} {gd : Option (List Code)} {L fa : Addr} {ccd : Value} {outer : List Env} {A₀ : Around} {base g : Heap} {m : PySem.Str → Option Value} {s : Shared} {Q : Flow → Shared → Prop} {E : Value → Shared → Prop}
    (l : Addr) (vs : List Value) (ns : List Int) (hI : IntsAre vs ns) (hlen : ns.length ≤ 63) (hl : g.IsList l vs.toArray) (o1 o2 o3 o4 o5 o6 o7 o8 : Obj) (d1 : o1.data = .cell (some (.ref l))) (d2 : o2.data = .cell none) (d3 : o3.data = .cell none) (d4 : o4.data = .cell none) (d5 : o5.data = .cell none) (d6 : o6.data = .cell none) (d7 : o7.data = .cell none) (d8 : o8.data = .cell none) (hE : PassesOwn (model Challenge.pw_sc0056_02 w) (lawA dp un gd L fa ccd outer) (lawEnv L fa ccd) E)
    (hB : Below A₀ base outer g) (hF : Fr g L s.heap m) (hX : (hd.heap_1 w.params).In g) (hT : Top p loose mean mg mb g) (hr : dp + 30 < recursionLimit) (hu : un + 16 * 30 < cLine) (hC : CodeHd base 109 107) (h7 : @LT.lt Nat _ 107 L) (hN : News g L s.heap [(L + 1 + 1 + 1 + 1 + 1 + 1 + 1 + 1, o8), (L + 1 + 1 + 1 + 1 + 1 + 1 + 1, o7), (L + 1 + 1 + 1 + 1 + 1 + 1, o6), (L + 1 + 1 + 1 + 1 + 1, o5), (L + 1 + 1 + 1 + 1, o4), (L + 1 + 1 + 1, o3), (L + 1 + 1, o2), (L + 1, o1), (107, tabObj #[])])
    (next : EndsD g L s Q) :
    wpAny (model Challenge.pw_sc0056_02 w) (lawA dp un gd L fa ccd outer) (execs lawBody (lawEnv L fa ccd)) Q E s := by
  refine main0 l vs ns hI hlen hl o1 [(L + 1 + 1 + 1 + 1 + 1 + 1 + 1 + 1, o8), (L + 1 + 1 + 1 + 1 + 1 + 1 + 1, o7), (L + 1 + 1 + 1 + 1 + 1 + 1, o6), (L + 1 + 1 + 1 + 1 + 1, o5), (L + 1 + 1 + 1 + 1, o4), (L + 1 + 1 + 1, o3), (L + 1 + 1, o2), (107, tabObj #[])] d1 hB hF hX hT hr hu hC (news_sub hN (by lcg_sub)) fun h tk m Dh a0 a1 a2 t0 t1 t2 q0 q1 q2 em lh F N => ?_
  have lh8 : @LT.lt Nat _ (L + 1 + 1 + 1 + 1 + 1 + 1 + 1 + 1) Dh := lh (L + 1 + 1 + 1 + 1 + 1 + 1 + 1 + 1, o8) (.head _)
  have n_heaps := m_this em
  clear em lh
  refine main1 Dh n_heaps hB F hX hT hr hu hC _ N fun h tk m tr n_ring n_heaps F N => ?_
  refine main2 o2 [(L + 1 + 1 + 1 + 1 + 1 + 1 + 1 + 1, o8), (L + 1 + 1 + 1 + 1 + 1 + 1 + 1, o7), (L + 1 + 1 + 1 + 1 + 1 + 1, o6), (L + 1 + 1 + 1 + 1 + 1, o5), (L + 1 + 1 + 1 + 1, o4), (L + 1 + 1 + 1, o3), (L + 1, o1), (107, tabObj #[])] (by k_all) Dh a0 a1 a2 t0 t1 t2 q0 q1 q2 d2 tr n_ring n_heaps (by omega) hB F hX hT hr hu hC (news_sub N (by lcg_sub)) fun h tk o2 ta d2 F N => ?_
  refine main3 o3 [(L + 1 + 1 + 1 + 1 + 1 + 1 + 1 + 1, o8), (L + 1 + 1 + 1 + 1 + 1 + 1 + 1, o7), (L + 1 + 1 + 1 + 1 + 1 + 1, o6), (L + 1 + 1 + 1 + 1 + 1, o5), (L + 1 + 1 + 1 + 1, o4), (L + 1 + 1, o2), (L + 1, o1), (107, tabObj #[])] (by k_all) Dh a0 a1 a2 t0 t1 t2 q0 q1 q2 d3 tr n_ring n_heaps (by omega) hB F hX hT hr hu hC (news_sub N (by lcg_sub)) fun h tk o3 tb d3 F N => ?_
  have m0 := Int.emod_nonneg a0 (show (8 : Int) ≠ 0 by decide)
  have m1 := Int.emod_lt_of_pos a0 (show (0 : Int) < 8 by decide)
  have m2 := Int.emod_nonneg (a0 % 8 + 1 + a0 / 8 % 7) (show (8 : Int) ≠ 0 by decide)
  have m3 := Int.emod_lt_of_pos (a0 % 8 + 1 + a0 / 8 % 7) (show (0 : Int) < 8 by decide)
  have ra := ring8_at (i := a0 % 8) m0 m1
  have rb := ring8_at (i := (a0 % 8 + 1 + a0 / 8 % 7) % 8) m2 m3
  have hab := ring8_ne (i := a0 % 8) (j := (a0 % 8 + 1 + a0 / 8 % 7) % 8) m0 m1 m2 m3 (far8 m0 m1 (Int.emod_nonneg _ (by decide)) (Int.emod_lt_of_pos _ (by decide)))
  clear m0 m1 m2 m3
  generalize ring8.getD (a0 % 8).toNat 0 = la at ra hab d2
  generalize ring8.getD ((a0 % 8 + 1 + a0 / 8 % 7) % 8).toNat 0 = lb at rb hab d3
  refine main4 o1 o2 o3 o4 o5 o6 o7 o8 Dh a0 a1 a2 t0 t1 t2 q0 q1 q2 d4 d5 d6 n_heaps lh8 h7 hB F hX hT hr hu hC (news_sub N (by lcg_sub)) fun h tk o4 o5 o6 G fw wr mk f0 f1 f2 tm u0 u1 u2 hwr d4 d5 d6 lG F N => ?_
  refine main5 o7 ((G, tupObj [.str (S f0) u0, .str (S f1) u1, .str (S f2) u2]) :: [(L + 1 + 1 + 1 + 1 + 1 + 1 + 1 + 1, o8), (L + 1 + 1 + 1 + 1 + 1 + 1, o6), (L + 1 + 1 + 1 + 1 + 1, o5), (L + 1 + 1 + 1 + 1, o4), (L + 1 + 1 + 1, o3), (L + 1 + 1, o2), (L + 1, o1), (107, tabObj #[])]) (by k_all) Dh a0 a1 a2 t0 t1 t2 q0 q1 q2 d7 n_heaps (by omega) hB F hX hT hr hu hC (news_sub N (by lcg_sub)) fun h tk o7 z tz hz3 hz5 d7 F N => ?_
  obtain ⟨n, rfl⟩ : ∃ n : Nat, z = ((n : Nat) : Int) := ⟨z.toNat, by omega⟩
  refine main6 o2 o3 o7 ((G, tupObj [.str (S f0) u0, .str (S f1) u1, .str (S f2) u2]) :: [(L + 1 + 1 + 1 + 1 + 1 + 1 + 1 + 1, o8), (L + 1 + 1 + 1 + 1 + 1 + 1 + 1, o7), (L + 1 + 1 + 1 + 1 + 1 + 1, o6), (L + 1 + 1 + 1 + 1 + 1, o5), (L + 1 + 1 + 1 + 1, o4), (L + 1 + 1 + 1, o3), (L + 1 + 1, o2), (L + 1, o1), (107, tabObj #[])]) Dh a0 a1 a2 t0 t1 t2 q0 q1 q2 la lb ta tb d2 d3 n (by omega) (by omega) tz d7 n_heaps hB F hX hT hr hu hC (news_sub N (by lcg_sub)) fun h tk m Dd kd x0 x1 v0 v1 hx0 hx1 lx0 lx1 ld em F N => ?_
  have ld8 : @LT.lt Nat _ (L + 1 + 1 + 1 + 1 + 1 + 1 + 1 + 1) Dd := ld (L + 1 + 1 + 1 + 1 + 1 + 1 + 1 + 1, o8) (.tail _ (.head _))
  have n_drawn := m_this em
  clear em ld n_heaps n_ring
  have e0 : x0.length ≤ 5 := by omega
  have e1 : x1.length ≤ 5 := by omega
  have ne0 : x0 ≠ [] := fun e => by rw [e] at hx0; simp at hx0; omega
  have ne1 : x1 ≠ [] := fun e => by rw [e] at hx1; simp at hx1; omega
  have r0 := two_r8 ra rb lx0
  have r1 := two_r8 ra rb lx1
  obtain ⟨P1, P2⟩ := plain1 hab (by omega) (by omega) hx0 hx1 lx0 lx1
  have P3 := plain2 hwr ra rb hab (by omega) (by omega) hx0 hx1 lx0 lx1
  clear P2
  refine main7 ((G, tupObj [.str (S f0) u0, .str (S f1) u1, .str (S f2) u2]) :: [(L + 1 + 1 + 1 + 1 + 1 + 1 + 1 + 1, o8), (L + 1 + 1 + 1 + 1 + 1 + 1 + 1, o7), (L + 1 + 1 + 1 + 1 + 1 + 1, o6), (L + 1 + 1 + 1 + 1 + 1, o5), (L + 1 + 1 + 1 + 1, o4), (L + 1 + 1 + 1, o3), (L + 1 + 1, o2), (L + 1, o1), (107, tabObj #[])]) Dd kd x0 x1 v0 v1 e0 e1 n_drawn hB F hX hT hr hu hC (news_sub N (by lcg_sub)) fun h tk m tp em F N => ?_
  have n_page := m_this em
  replace n_drawn := m_other em (by decide) n_drawn
  clear em
  refine main8 o8 d8 ((Dd, listOf [.str (S x0) v0, .str (S x1) v1].toArray kd) :: (G, tupObj [.str (S f0) u0, .str (S f1) u1, .str (S f2) u2]) :: [(L + 1 + 1 + 1 + 1 + 1 + 1 + 1, o7), (L + 1 + 1 + 1 + 1 + 1 + 1, o6), (L + 1 + 1 + 1 + 1 + 1, o5), (L + 1 + 1 + 1 + 1, o4), (L + 1 + 1 + 1, o3), (L + 1 + 1, o2), (L + 1, o1)]) x0 x1 v0 v1 e0 e1 tp n_page ?lt107 (by k_all) hB F hX hT hr hu hC (news_sub N (by lcg_sub)) fun h tk o8 r tz' kp lf kl ps ok hlf ltl l8 d8 F N => ?_
  case lt107 =>
    intro p hp
    simp only [List.mem_cons, List.not_mem_nil, or_false] at hp
    rcases hp with rfl | rfl | rfl | rfl | rfl | rfl | rfl | rfl | rfl | rfl <;> (dsimp only; omega)
  have lD : @LT.lt Nat _ Dd r.aC := ltl (Dd, listOf [.str (S x0) v0, .str (S x1) v1].toArray kd) (.head _)
  -- what is no part of the reader
  obtain ⟨K, hK⟩ : ∃ K, K = (107, tabObj ps) :: (Dd, listOf [.str (S x0) v0, .str (S x1) v1].toArray kd) :: (G, tupObj [.str (S f0) u0, .str (S f1) u1, .str (S f2) u2]) :: [(L + 1 + 1 + 1 + 1 + 1 + 1 + 1, o7), (L + 1 + 1 + 1 + 1 + 1 + 1, o6), (L + 1 + 1 + 1 + 1 + 1, o5), (L + 1 + 1 + 1 + 1, o4), (L + 1 + 1 + 1, o3), (L + 1 + 1, o2), (L + 1, o1)] := ⟨_, rfl⟩
  have kl1 : ∀ p ∈ K, @LT.lt Nat _ p.1 r.aC := by
    intro p hp
    rw [hK] at hp
    rcases List.mem_cons.mp hp with rfl | hp
    · dsimp only; omega
    · exact ltl p hp
  have kD : (Dd, listOf [.str (S x0) v0, .str (S x1) v1].toArray kd) ∈ K := by rw [hK]; k_mem
  have k107 : (107, tabObj ps) ∈ K := by rw [hK]; k_mem
  have kF : (G, tupObj [.str (S f0) u0, .str (S f1) u1, .str (S f2) u2]) ∈ K := by rw [hK]; k_mem
  have k7 : (L + 1 + 1 + 1 + 1 + 1 + 1 + 1, o7) ∈ K := by rw [hK]; k_mem
  have k6 : (L + 1 + 1 + 1 + 1 + 1 + 1, o6) ∈ K := by rw [hK]; k_mem
  have k5 : (L + 1 + 1 + 1 + 1 + 1, o5) ∈ K := by rw [hK]; k_mem
  have k4 : (L + 1 + 1 + 1 + 1, o4) ∈ K := by rw [hK]; k_mem
  have k3 : (L + 1 + 1 + 1, o3) ∈ K := by rw [hK]; k_mem
  have k2 : (L + 1 + 1, o2) ∈ K := by rw [hK]; k_mem
  replace N := N
  rw [← hK] at N
  clear hK ltl
  refine main9 o8 K Dd kd x0 x1 v0 v1 r0 r1 e0 e1 ne0 ne1 r ok kp kl1 l8 d8 lD tz' lf kl hlf n_drawn hB F hX hT hr hu hC (news_sub N ?s9) fun h tk m Hd b0 b1 ln tz' lf kl hlf hln hof em F N => ?_
  case s9 =>
    intro q hq
    rcases List.mem_cons.mp hq with rfl | hq
    · exact List.mem_append_right _ (.tail _ kD)
    rcases List.mem_cons.mp hq with rfl | hq
    · exact List.mem_append_right _ (.head _)
    · exact mem_k (in_rd hq)
  have n_heard := m_this em
  replace n_drawn := m_other em (by decide) n_drawn
  replace n_page := m_other em (by decide) n_page
  clear em
  refine main10 o8 K Dd kd x0 x1 v0 v1 r0 r1 e0 e1 ne0 ne1 r ok kp kl1 l8 d8 lD ln tz' lf kl hlf hln Hd b0 b1 hof tp n_drawn n_heard n_page hB F hX hT hr hu hC N fun h tk tz9 lf9 kl9 hlf9 F N => ?_
  have offH : OffR w r [(Hd, listOf [.str (S x0) b0, .str (S x1) b1].toArray 2)] := offR_ne (ln := ln) (tz := tz') (pb := []) (kp := kp) (lf := lf) (kl := kl) fun q hq p hp => by rw [List.mem_singleton.mp hq]; exact off1_mem hof p (.tail _ (.tail _ (mem_rd hp)))
  clear hof hln hlf n_page
  generalize hTOT : (1 + ((pageB x0 x1).count 10 : Nat) : Int) = TOT at N
  refine main11 ((Hd, listOf [.str (S x0) b0, .str (S x1) b1].toArray 2) :: (L + 1 + 1 + 1 + 1 + 1 + 1 + 1 + 1, o8) :: (rdr 153 w.params r TOT tz9 [] kp lf9 kl9 ++ K)) Dd kd x0 x1 v0 v1 e0 e1 (fun c hc => r8_lt (r0 c hc)) (fun c hc => r8_lt (r1 c hc)) n_drawn hB F hX hT hr hu hC (news_sub N ?s11) fun h tk m Du us ku utl hdu hoL em F N => ?_
  case s11 =>
    intro q hq
    rcases List.mem_cons.mp hq with rfl | hq
    · exact .tail _ (.head _)
    rcases List.mem_cons.mp hq with rfl | hq
    · exact .head _
    rcases List.mem_cons.mp hq with rfl | hq
    · exact .tail _ (.tail _ (.head _))
    · exact .tail _ (.tail _ (.tail _ hq))
  have n_due := m_this em
  replace n_drawn := m_other em (by decide) n_drawn
  replace n_heard := m_other em (by decide) n_heard
  clear em
  have offD : OffR w r ((Du, listOf us.toArray ku) :: utl) := offR_ne (ln := TOT) (tz := tz9) (pb := []) (kp := kp) (lf := lf9) (kl := kl9) fun q hq p hp => Ne.symm (hoL q hq p (.tail _ (.tail _ (.tail _ (List.mem_append_left _ hp)))))
  clear hoL
  obtain ⟨K2, hK2⟩ : ∃ K2, K2 = (Du, listOf us.toArray ku) :: (Hd, listOf [.str (S x0) b0, .str (S x1) b1].toArray 2) :: (L + 1 + 1 + 1 + 1 + 1 + 1 + 1 + 1, o8) :: (utl ++ K) := ⟨_, rfl⟩
  have off2 : OffR w r K2 := by
    rw [hK2]
    refine OffR.cons (OffR.sub offD fun q hq => by rw [List.mem_singleton.mp hq]; exact .head _) (OffR.cons offH (OffR.cons (offR_lt ok fun q hq => by rw [List.mem_singleton.mp hq]; exact l8) fun q hq => ?_))
    rcases List.mem_append.mp hq with hq | hq
    · exact offD q (.tail _ hq)
    · exact offR_lt ok kl1 q hq
  have jD : (Du, listOf us.toArray ku) ∈ K2 := by rw [hK2]; k_mem
  have jH : (Hd, listOf [.str (S x0) b0, .str (S x1) b1].toArray 2) ∈ K2 := by rw [hK2]; k_mem
  have j8 : (L + 1 + 1 + 1 + 1 + 1 + 1 + 1 + 1, o8) ∈ K2 := by rw [hK2]; k_mem
  have jU : ∀ q ∈ utl, q ∈ K2 := fun q hq => by rw [hK2]; exact .tail _ (.tail _ (.tail _ (List.mem_append_left _ hq)))
  have jK : ∀ q ∈ K, q ∈ K2 := fun q hq => by rw [hK2]; exact .tail _ (.tail _ (.tail _ (List.mem_append_right _ hq)))
  have N2 : News g L h (rdr 153 w.params r TOT tz9 [] kp lf9 kl9 ++ K2) := news_sub N fun q hq => by
    rcases List.mem_append.mp hq with hq | hq
    · exact .tail _ (List.mem_append_right _ (.tail _ (.tail _ (.tail _ (List.mem_append_left _ hq)))))
    · rw [hK2] at hq
      rcases List.mem_cons.mp hq with rfl | hq
      · exact .head _
      rcases List.mem_cons.mp hq with rfl | hq
      · exact .tail _ (List.mem_append_right _ (.tail _ (.head _)))
      rcases List.mem_cons.mp hq with rfl | hq
      · exact .tail _ (List.mem_append_right _ (.tail _ (.tail _ (.head _))))
      rcases List.mem_append.mp hq with hq | hq
      · exact .tail _ (List.mem_append_left _ hq)
      · exact .tail _ (List.mem_append_right _ (.tail _ (.tail _ (.tail _ (List.mem_append_right _ hq)))))
  clear hK2 N offD offH kl1
  refine main12 o2 o3 o7 o8 K2 x0 x1 e0 e1 r ok kp d8 tz9 lf9 kl9 la lb ta tb hab d2 d3 n (by omega) (by omega) tz d7 Hd b0 b1 Du us ku utl hdu jU (OffR.sub off2 ?s12a) P1 (plain4 (fun c hc => r8_lt (r0 c hc)) fun c hc => r8_lt (r1 c hc)) ?f46 ?f128 n_heard n_due hB F hX hT hr hu hC (news_sub N2 ?s12) fun h tk kp F N => ?_
  case s12a =>
    intro q hq
    repeat (rcases List.mem_cons.mp hq with rfl | hq; · first | assumption | exact jK _ (by assumption))
    exact hq
  case f46 => exact fun hm => lohi_P (P := fun c => c ≠ 46) (r8_46 ra) (r8_46 rb) _ hm rfl
  case f128 => exact lohi_P (P := fun c => c < 128) (r8_lt ra) (r8_lt rb)
  case s12 =>
    rw [hTOT]
    intro q hq
    iterate 6 (rcases List.mem_cons.mp hq with rfl | hq; · first | exact List.mem_append_right _ (by assumption) | exact List.mem_append_right _ (jK _ (by assumption)))
    exact in_rd hq
  rw [hTOT] at N
  replace N := news_sub N (l' := rdr 153 w.params r TOT tz9 [] kp lf9 kl9 ++ K2) (fun q hq => .tail _ (.tail _ (.tail _ (.tail _ (.tail _ (.tail _ (rd_in hq)))))))
  clear N2
  refine main13 o4 (rdr 153 w.params r TOT tz9 [] kp lf9 kl9 ++ K2) fw wr mk f0 f1 f2 hwr d4 x0 x1 e0 e1 Hd b0 b1 n_heard hB F hX hT hr hu hC (news_p (.tail _ (List.mem_append_right _ jH)) (news_p (List.mem_append_right _ (jK _ k4)) N)) fun h tk m Wd c0 c1 oW em F N => ?_
  have n_written := m_this em
  replace n_drawn := m_other em (by decide) n_drawn
  replace n_heard := m_other em (by decide) n_heard
  replace n_due := m_other em (by decide) n_due
  clear em
  have off3 : OffR w r ((Wd, listOf [.str (S (wr x0)) c0, .str (S (wr x1)) c1].toArray 2) :: K2) := OffR.cons (offR_ne (ln := TOT) (tz := tz9) (pb := []) (kp := kp) (lf := lf9) (kl := kl9) fun q hq p hp => by rw [List.mem_singleton.mp hq]; exact off1_mem oW p (.tail _ (.tail _ (List.mem_append_left _ hp)))) off2
  clear oW off2
  replace N := news_k (news_sub N (l' := (Wd, listOf [.str (S (wr x0)) c0, .str (S (wr x1)) c1].toArray 2) :: (rdr 153 w.params r TOT tz9 [] kp lf9 kl9 ++ K2)) fun q hq => by
    rcases List.mem_cons.mp hq with rfl | hq
    · exact .head _
    · exact .tail _ (.tail _ (.tail _ hq)))
  have inK : ∀ {q}, q ∈ K → q ∈ rdr 153 w.params r TOT tz9 [] kp lf9 kl9 ++ (Wd, listOf [.str (S (wr x0)) c0, .str (S (wr x1)) c1].toArray 2) :: K2 := fun hq => List.mem_append_right _ (.tail _ (jK _ hq))
  refine main14 o5 o6 (rdr 153 w.params r TOT tz9 [] kp lf9 kl9 ++ (Wd, listOf [.str (S (wr x0)) c0, .str (S (wr x1)) c1].toArray 2) :: K2) Dd kd x0 x1 v0 v1 r0 r1 e0 e1 ne0 ne1 fw wr mk f0 f1 f2 hwr G tm u0 u1 u2 d5 d6 Wd c0 c1 n_drawn n_written hB F hX hT hr hu hC (news_p (.tail _ (.tail _ (.tail _ (.tail _ (List.mem_append_right _ (.head _)))))) (news_p (.tail _ (.tail _ (.tail _ (inK kD)))) (news_p (.tail _ (.tail _ (inK kF))) (news_p (.tail _ (inK k6)) (news_p (inK k5) N))))) fun h tk F N => ?_
  replace N := news_tail (news_tail (news_tail (news_tail (news_tail N))))
  have w9 : ∀ {t : List Nat}, (∀ c ∈ t, R8 c) → t.length ≤ 5 → (wr t).length ≤ 900 := fun ht h5 => by have := wr_len hwr ht; omega
  refine main15 ((Wd, listOf [.str (S (wr x0)) c0, .str (S (wr x1)) c1].toArray 2) :: K2) o2 o3 o4 o8 x0 x1 e0 e1 fw wr mk f0 f1 f2 hwr d4 la lb ta tb d2 d3 r ok kp TOT tz9 lf9 kl9 d8 Hd b0 b1 Wd c0 c1 Du us ku utl hdu (.tail _ jH) (.head _) (.tail _ j8) (.tail _ (jK _ k4)) (.tail _ (jK _ k3)) (.tail _ (jK _ k2)) (.tail _ jD) (fun q hq => .tail _ (jU q hq)) off3 ra rb (w9 r0 e0) (w9 r1 e1) P3 (plain3 hwr ra rb hab) n_heard n_written n_due hE hB F hX hT hr hu hC N fun h dr tk kp m F N => ?_
  refine main16 o8 ((Wd, listOf [.str (S (wr x0)) c0, .str (S (wr x1)) c1].toArray 2) :: K2) r ok kp d8 TOT tz9 lf9 kl9 hlf9 ps (.tail _ (jK _ k107)) off3 hB F hX hT hr hu hC (news_sub N ?s16) fun h m tk ps F N => ?_
  case s16 =>
    intro q hq
    rcases List.mem_cons.mp hq with rfl | hq
    · exact List.mem_append_right _ (.tail _ j8)
    · exact in_rd hq
  exact next h dr m tk ps F N
end
section
local macro_rules | `(tactic| walk_at "zz0") => `(tactic| fail)
local macro_rules | `(tactic| walk_at "zz1") => `(tactic| fail)
local macro_rules | `(tactic| walk_at "zz2") => `(tactic| fail)
theorem foo : PySem.Challenge.rw_sc0056_02.Holds := by
  refine hd1 (by rfl) (by rfl) (by rfl) ?_
  k_go0
  rename CodeHd _ _ _ => hC1
  rename Fr _ _ _ (bindL _ _ _) => hF1
  rename News _ _ _ _ => hN1
  rename Top topProg _ _ _ _ _ => hT1
  rename Below _ _ _ _ => hB1
  rename Frag.In _ _ => hX1
  rename IntsAre _ _ => hI1
  rename 107 < _ => h71
  rename ¬ ((63 : Nat) : Int) < _ => hc1
  rename Heap.IsList (ghostOf _ _) _ _ => hl1
  rename CellsAre _ _ _ => hca
  rename_i q1 q2 q3 q4 q5 q6 q7 q8 q9
  refine law_body (dp := callerA.depth + 1) (un := callerA.units + 3) (gd := callerA.guards) (outer := []) _ _ _ hI1 (by omega) hl1 _ _ _ _ _ _ _ _ ?d1 ?d2 ?d3 ?d4 ?d5 ?d6 ?d7 ?d8 ?hE hB1 hF1 hX1 hT1 ?hr ?hu hC1 h71 hN1 fun h' dr' m' tk' ps F N => ?_
  case d1 => exact q9
  case d2 => exact q8
  case d3 => exact q7
  case d4 => exact q6
  case d5 => exact q5
  case d6 => exact q4
  case d7 => exact q3
  case d8 => exact q2
  case hE => with_unfolding_all passes_own
  case hr => decide
  case hu => decide
  clear hN1 hF1
  (try clear sfl)
  k_steps
end
end
end
end
end Mine
theorem PySem.Challenge.cw_sc0056_02_holds : PySem.Challenge.rw_sc0056_02.Holds := by
  exact Mine.foo
