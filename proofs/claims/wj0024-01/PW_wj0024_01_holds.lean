import PyProof.Rows.All
import Wide.All
import OpenK.AllK
import Wide.FinOn
import Lean
import PySem.Challenge.RW_wj0024_01
open PySem PySem.W PyProof.Rows
set_option Elab.async false
set_option maxRecDepth 100000

-- part Hd
section
open PySem PySem.W PyProof.Rows
set_option Elab.async false
set_option maxRecDepth 100000
set_option maxHeartbeats 8000000
namespace Mine
open_top hd for PySem.Challenge.rw_wj0024_01
end Mine
end
-- part Bs
section
open PySem PySem.W PyProof.Rows
set_option Elab.async false
set_option maxRecDepth 100000
namespace Mine
noncomputable abbrev lo : List Str := looseW hd.view_39 [] ++ List.map (fun x => x.name) (recsOf hd.view_39) ++ List.map (fun x => x.fst) (litsOf hd.view_39) ++ List.map (fun x => x.name) (clssOf hd.view_39 (looseW hd.view_39 []))
abbrev Rt (h₀ : Heap) (L : Addr) (m : Str → Option Value) (news : List (Addr × Obj)) (s : Shared) (Q : Value → Shared → Prop) (R : Tok → Value) : Prop :=
  ∀ (t : Tok) (h' : Heap) (tk' : Nat), Fr h₀ L h' m → News h₀ L h' news → Q (R t) { s with heap := h', toks := tk' }
abbrev Cg (w : World) (mean : ExcName → Option Value) (mg mb : Str → Option Value) (f : Addr) (news : List (Addr × Obj)) (D : Nat) (pre : Prop) (vs : List Value)
    (K : Heap → Addr → (Str → Option Value) → Shared → (Value → Shared → Prop) → Prop) : Prop :=
  ∀ {dp un : Nat} {gd : Option (List Code)} {cn : Str} {cs : Scope} {a : Addr} {ccd : Value} {cl : List (Str × Addr)} {outer : List Env} {A₀ : Around} {base h₀ : Heap} {L : Addr} {m : Str → Option Value} {s : Shared} {Q E : Value → Shared → Prop},
    Below A₀ base outer h₀ → Fr h₀ L s.heap m → (hd.heap_39 w.params).In h₀ → News h₀ L s.heap news → Top topProg lo mean mg mb h₀ → cs.kind = .function →
    pre → dp + D < recursionLimit → un + 8 * D < cLine → K h₀ L m s Q →
      wpAny (model PySem.Challenge.rw_wj0024_01.row.prog w) (ktrTop dp un gd cn cs L a ccd cl outer) (call (.ref f) vs) Q E s
abbrev Cl (w : World) (mean : ExcName → Option Value) (mg mb : Str → Option Value) (f : Addr) (news : List (Addr × Obj)) (D : Nat) (pre : Prop) (vs : List Value) (R : Tok → Value) : Prop :=
  Cg w mean mg mb f news D pre vs (fun h₀ L m s Q => Rt h₀ L m news s Q R)
abbrev RtL (h₀ : Heap) (L : Addr) (m : Str → Option Value) (news : List (Addr × Obj)) (s : Shared) (Q : Value → Shared → Prop) (ns : List Int) : Prop :=
  ∀ (l : Addr) (vs : List Value) (n : Nat) (h' : Heap) (tk' : Nat), IntsAre vs ns → Fr h₀ L h' m → News h₀ L h' ((l, listOf vs.toArray n) :: news) → (∀ p ∈ news, p.1 < l) → Q (.ref l) { s with heap := h', toks := tk' }
def quoted (m : Nat) (c : Nat) : Str := ⟨(([50,53,55,32,34] : List Nat) ++ List.replicate m 34 ++ [c]).toArray⟩
def halved (m : Nat) (c : Nat) : Str := ⟨(List.replicate (m / 2) 34 ++ if m % 2 = 0 then [c] else []).toArray⟩
end Mine
end
-- part S1
section
open PySem PySem.W PyProof.Rows
open Builtin Builtin.Str
set_option Elab.async false
namespace Mine
theorem quoted_len (m c : Nat) : (quoted m c).length = m + 6 := by simp [quoted, Str.length]
theorem quoted_get (m c i : Nat) (h : i < m) : (quoted m c).cps[5 + i]? = some 34 := by
  unfold quoted
  simp only [List.getElem?_toArray]
  rw [List.getElem?_append_left (by simp; omega), List.getElem?_append_right (by simp)]
  simp [h]
theorem quoted_last (m c : Nat) : (quoted m c).cps[5 + m]? = some c := by
  unfold quoted
  simp only [List.getElem?_toArray]
  rw [List.getElem?_append_right (by simp; omega)]
  have : 5 + m - (([50,53,55,32,34] : List Nat) ++ List.replicate m 34).length = 0 := by simp; omega
  rw [this]; rfl
theorem item_of (m c i v : Nat) (hi : i < m + 6) (h : (quoted m c).cps[i]? = some v) : Txt.item (quoted m c) (i : Int) = ⟨#[v]⟩ := by
  unfold Txt.item Txt.charAt
  rw [quoted_len]
  have : seqIndex? (i : Int) (m + 6) = some i := by
    unfold seqIndex?
    simp
    omega
  rw [this]
  simp [h]
theorem item_mark (m c i : Nat) (h : i < m) : Txt.item (quoted m c) (5 + (i : Int)) = Str.ofString "\"" := by
  have := item_of m c (5 + i) 34 (by omega) (quoted_get m c i h)
  rw [show (5 : Int) + (i : Int) = ((5 + i : Nat) : Int) by omega, this]
  decide +kernel
theorem item_sign (m c : Nat) : Txt.item (quoted m c) (5 + (m : Int)) = ⟨#[c]⟩ := by
  have := item_of m c (5 + m) c (by omega) (quoted_last m c)
  rw [show (5 : Int) + (m : Int) = ((5 + m : Nat) : Int) by omega, this]
theorem q3 (m c : Nat) : Txt.slice (quoted m c) none (some 3) = Str.ofString "257" := by
  unfold Txt.slice
  have e : strSliceIndices none (some 3) 1 (quoted m c).length = [0, 1, 2] := by
    rw [quoted_len]
    unfold strSliceIndices
    simp only [show (1 : Int) > 0 by decide, if_true, show ¬ (3 : Int) < 0 by decide, if_false]
    rw [show max (0 : Int) (min 3 ((m + 6 : Nat) : Int)) = 3 by omega]
    decide +kernel
  rw [e, quoted_len]
  have : (([0,1,2] : List Nat).length == m + 6) = false := by simp
  rw [this]
  simp [quoted]
  decide +kernel
theorem q5 (m c : Nat) : Txt.slice (quoted m c) (some 3) (some 5) = Str.ofString " \"" := by
  unfold Txt.slice
  have e : strSliceIndices (some 3) (some 5) 1 (quoted m c).length = [3, 4] := by
    rw [quoted_len]
    unfold strSliceIndices
    simp only [show (1 : Int) > 0 by decide, if_true, show ¬ (3 : Int) < 0 by decide, show ¬ (5 : Int) < 0 by decide, if_false]
    rw [show max (0 : Int) (min 3 ((m + 6 : Nat) : Int)) = 3 by omega, show max (0 : Int) (min 5 ((m + 6 : Nat) : Int)) = 5 by omega]
    decide +kernel
  rw [e, quoted_len]
  have : (([3,4] : List Nat).length == m + 6) = false := by simp
  rw [this]
  simp [quoted]
  decide +kernel
theorem sign_ne {c : Nat} (h : c ≠ 34) : ((⟨#[c]⟩ : Str) == Str.ofString "\"") = false := by
  rw [show Str.ofString "\"" = ⟨#[34]⟩ by decide +kernel]
  simp [h]
def rep (j : Nat) : Str := ⟨(List.replicate j 34).toArray⟩
theorem rep_succ (j : Nat) : rep j ++ Str.ofString "\"" = rep (j + 1) := by
  rw [show Str.ofString "\"" = ⟨#[34]⟩ by decide +kernel]
  refine congrArg Str.mk (Array.toList_inj.mp ?_)
  simp [rep, List.replicate_succ']
theorem rep_sign (m c : Nat) (h : m % 2 = 0) : rep (m / 2) ++ ⟨#[c]⟩ = halved m c := by
  rw [halved, if_pos h]
  refine congrArg Str.mk (Array.toList_inj.mp ?_)
  simp [rep]
theorem rep_half (m c : Nat) (h : m % 2 = 1) : rep (m / 2) = halved m c := by
  simp [rep, halved, h]

theorem mul_fold (c k : Nat) (acc : Array Nat) : (List.replicate k #[c]).foldl (· ++ ·) acc = acc ++ (List.replicate k c).toArray := by
  induction k generalizing acc with
  | zero => simp
  | succ k ih =>
    rw [List.replicate_succ, List.foldl_cons, ih]
    refine Array.toList_inj.mp ?_
    simp [List.replicate_succ]
theorem mul_one (c k : Nat) : Txt.mul ⟨#[c]⟩ (k : Int) = ⟨(List.replicate k c).toArray⟩ := by
  unfold Txt.mul
  by_cases h0 : (k : Int) < 1
  · rw [if_pos h0, show k = 0 by omega]; rfl
  · rw [if_neg h0]
    by_cases h1 : k = 1
    · subst h1; rfl
    · have : (((k : Int) == 1) || ((⟨#[c]⟩ : Str).length == 0)) = false := by
        simp [Str.length]; omega
      rw [this, if_neg (by decide), Int.toNat_natCast, mul_fold]
      simp
theorem mul_mark (k : Nat) : Txt.mul (Str.ofString "\"") (k : Int) = rep k := by
  rw [show Str.ofString "\"" = ⟨#[34]⟩ by decide +kernel, mul_one]; rfl
theorem quoted_is (m c : Nat) : Str.ofString "257 \"" ++ Txt.mul (Str.ofString "\"") (m : Int) ++ ⟨#[c]⟩ = quoted m c := by
  rw [mul_mark, show Str.ofString "257 \"" = ⟨#[50,53,55,32,34]⟩ by decide +kernel]
  show Str.mk ((#[50, 53, 55, 32, 34] ++ (List.replicate m 34).toArray) ++ #[c]) = _
  refine congrArg Str.mk (Array.toList_inj.mp ?_)
  simp
theorem cnt_rep (k : Nat) : cnt 34 (List.replicate k 34) = (k : Int) := by
  induction k with
  | zero => rfl
  | succ k ih => rw [List.replicate_succ, cnt_cons, ih]; simp; omega
theorem count_halved (m c : Nat) (h : c ≠ 34) : Txt.count (halved m c) (Str.ofString "\"") = ((m / 2 : Nat) : Int) := by
  rw [show Str.ofString "\"" = ⟨#[34]⟩ by decide +kernel, count_cnt]
  unfold halved
  show cnt 34 (List.replicate (m / 2) 34 ++ if m % 2 = 0 then [c] else []) = _
  rw [cnt_append, cnt_rep]
  by_cases h2 : m % 2 = 0
  · rw [if_pos h2, cnt_cons, cnt_nil, if_neg h]; omega
  · rw [if_neg h2, cnt_nil]; omega
theorem told_is (m c : Nat) : Txt.mul (Str.ofString "\"") ((m / 2 : Nat) : Int) ++ Txt.mul ⟨#[c]⟩ ((1 - m % 2 : Nat) : Int) = halved m c := by
  rw [mul_mark, mul_one]
  unfold halved rep
  refine congrArg Str.mk (Array.toList_inj.mp ?_)
  rcases Nat.mod_two_eq_zero_or_one m with h | h <;> simp [h]
theorem mulOk_sign (c k : Nat) (h : k ≤ 1) : MulOk ⟨#[c]⟩ (k : Int) := by
  rcases (by omega : k = 0 ∨ k = 1) with rfl | rfl
  · refine ⟨by decide +kernel, fun h => absurd (by decide) h, fun h => absurd (by decide) h⟩
  · refine ⟨by decide +kernel, fun _ h => ?_, fun _ h => ?_⟩ <;> exact absurd h (by simp)
theorem fmod2 (m : Nat) : 1 - (m : Int).fmod 2 = ((1 - m % 2 : Nat) : Int) := by
  rw [Int.fmod_eq_emod_of_nonneg _ (by decide)]; omega
end Mine
end
-- part T2
section
open PySem PySem.W PyProof.Rows
set_option Elab.async false
set_option maxRecDepth 100000
namespace Mine
def pInv (m c : Nat) (d : Str) (i : Int) : Prop := (∃ j : Nat, 2 * j ≤ m ∧ i = 5 + 2 * (j : Int) ∧ d = rep j) ∨ (m % 2 = 0 ∧ i = (m : Int) + 6 ∧ d = halved m c)

theorem p_start (m c : Nat) : pInv m c (Str.ofString "") 5 := .inl ⟨0, by omega, by simp, by decide +kernel⟩
theorem p_mark (m c j : Nat) (h : 2 * j + 2 ≤ m) : pInv m c (rep j ++ Str.ofString "\"") (5 + 2 * (j : Int) + 1 + 1) := .inl ⟨j + 1, by omega, by omega, rep_succ j⟩
theorem p_sign (m c j : Nat) (h : 2 * j = m) : pInv m c (rep j ++ ⟨#[c]⟩) (5 + 2 * (j : Int) + 1) :=
  .inr ⟨by omega, by omega, by rw [← rep_sign m c (by omega), show j = m / 2 by omega]⟩
theorem it_a {m c j : Nat} (h : 2 * j < m) : Txt.item (quoted m c) (5 + 2 * (j : Int)) = Str.ofString "\"" := by
  have := item_mark m c (2 * j) h
  simpa using this
theorem it_b {m c j : Nat} (h : 2 * j + 1 < m) : Txt.item (quoted m c) (5 + 2 * (j : Int) + 1) = Str.ofString "\"" := by
  have := item_mark m c (2 * j + 1) h
  rw [show (5 : Int) + ((2 * j + 1 : Nat) : Int) = 5 + 2 * (j : Int) + 1 by omega] at this
  exact this
theorem it_d {m c j : Nat} (h : 2 * j = m) : Txt.item (quoted m c) (5 + 2 * (j : Int)) = ⟨#[c]⟩ := by
  subst h
  have := item_sign (2 * j) c
  simpa using this
theorem it_c {m c j : Nat} (h : 2 * j + 1 = m) : Txt.item (quoted m c) (5 + 2 * (j : Int) + 1) = ⟨#[c]⟩ := by
  have := item_sign m c
  rw [show (5 : Int) + (m : Int) = 5 + 2 * (j : Int) + 1 by omega] at this
  exact this
theorem it_e {m c j : Nat} (h : 2 * j + 1 = m) : rep j = halved m c := by rw [← rep_half m c (by omega), show j = m / 2 by omega]
set_option maxHeartbeats 8000000 in
theorem parse_spec {w : World} {mean : ExcName → Option Value} {mg mb : Str → Option Value} {m : Nat} {c : Nat} {t : Tok} {news : List (Addr × Obj)} :
    Cl w mean mg mb 88 news 1 (m ≤ 64 ∧ c ≠ 34) [.str (quoted m c) t] (fun t => .str (halved m c) t) := by
  unfold Cl Cg Rt
  w_top off
  k_fill
  intros; rename_i hpre _ _ hret
  obtain ⟨hm, hc⟩ := hpre
  have hl : ((quoted m c).length : Int) = (m : Int) + 6 := by rw [quoted_len]; omega
  have hq : (quoted m c).length ≤ 70 := by rw [quoted_len]; omega
  refine wpAny_call ?_
  k_dflt cell_enter
  iterate 13 walk1
  rw [q3]
  iterate 5 walk1
  iterate 13 walk1
  rw [q5]
  iterate 3 walk1
  iterate 19 walk1
  rw [hl]
  iterate 3 walk1
  k_with "state" => first | exact p_start _ _ | exact p_mark _ _ _ (by assumption) | exact p_sign _ _ _ (by assumption)
  k_while (fun _ d i => pInv m c d i) (fun _ d i => ((m : Int) + 6 - i).toNat) "dirname" "i"
  rcases kInv with ⟨j, hj, rfl, rfl⟩ | ⟨he, rfl, rfl⟩
  · have hlj : (rep j).length = j := by simp [rep, Str.length]
    rcases (by omega : 2 * j + 1 ≤ m ∨ 2 * j = m) with hA | hA
    · have e1 := it_a (c := c) hA
      iterate 11 walk1
      walk1
      rw [e1]
      iterate 31 walk1
      walk1
      rcases (by omega : 2 * j + 2 ≤ m ∨ 2 * j + 1 = m) with hB | hB
      · rw [it_b hB]
        k_steps
        all_goals cb_end hret
      · rw [it_c hB]
        have e3 := sign_ne hc
        have e4 := it_e (c := c) hB
        k_steps
        all_goals cb_end hret
      all_goals k_steps
      all_goals cb_end hret
    · have e1 := it_d (c := c) hA
      have e3 := sign_ne hc
      iterate 11 walk1
      walk1
      rw [e1]
      k_steps
      all_goals cb_end hret
  · k_steps
    all_goals cb_end hret
end Mine
end
-- part T3
section
open PySem PySem.W PyProof.Rows
set_option Elab.async false
set_option maxRecDepth 100000
namespace Mine
set_option maxHeartbeats 8000000 in
theorem halved_spec {w : World} {mean : ExcName → Option Value} {mg mb : Str → Option Value} {m : Nat} {t : Tok} {c : Nat} {t2 : Tok} {news : List (Addr × Obj)} :
    Cl w mean mg mb 130 news 2 (1 ≤ m ∧ m ≤ 64 ∧ c ≠ 34) [.int (m : Int) t, .str ⟨#[c]⟩ t2] (fun t => .int ((m / 2 : Nat) : Int) t) := by
  unfold Cl Cg Rt
  w_top off
  k_fill
  intros; rename_i hpre _ _ hret
  obtain ⟨h1, hm, hc⟩ := hpre
  refine wpAny_call ?_
  k_dflt cell_enter
  iterate 19 walk1
  rw [quoted_is]
  k_dflt (refine' parse_spec (by k_asm) (by k_asm) (by k_asm) (by k_asm) (by k_asm) rfl ⟨hm, hc⟩ (by ktr_room) (by ktr_units) ?_)
  intro t9 h9 tk9 F9 N9
  (try dsimp only)
  iterate 12 walk1
  rw [count_halved m c hc]
  iterate 21 walk1
  rw [fmod2]
  have hml : (Txt.mul ⟨#[c]⟩ ((1 - m % 2 : Nat) : Int)).length ≤ 1 := by rw [mul_one]; simp [Str.length]
  refine PySem.SB.mul (mulOk_sign c _ (by omega)) ?_
  intro t8 k8
  walk1
  rw [told_is]
  k_steps
  all_goals cb_end hret
end Mine
end
-- part R1
section
open PySem PySem.W PyProof.Rows
set_option Elab.async false
set_option maxRecDepth 100000
namespace Mine
section
variable {prog : Program} {w : World} {A : Around} {E : Value → Shared → Prop} {s : Shared}
theorem item_lastK {value slice : PySem.Expr} {l : Addr} {vs : List Value} {ns : List Int} {u : Tok} {Q : Value → Shared → Prop} (hl : s.heap.IsList l vs.toArray) (hi : IntsAre vs ns)
    (h1 : 0 < ns.length) (h : ∀ t, Q (.int (ns.getD (ns.length - 1) 0) t) s)
    (hs : subscripted slice false (.ref l) (.int (-1) u) = operate [.ref l, .int (-1) u] (getItem (.ref l) (.int (-1) u)) := by with_unfolding_all rfl) :
    wpAny (model prog w) A (subscriptTail value slice (.ref l) (.int (-1) u)) Q E s := by
  have hlen := hi.length
  obtain ⟨t, hx⟩ := hi.get (ns.length - 1) (ns.getD (ns.length - 1) 0) (by rw [List.getD_eq_getElem?_getD, List.getElem?_eq_getElem (by omega)]; rfl)
  refine tail_any hl.typeIs slot_list_getitem.lookup (wpAny_getItem_list_neg hl (by decide) (by simp; omega) (by decide) (x := .int (ns.getD (ns.length - 1) 0) t) ?_ (h t)) hs
  rw [show ((-1 : Int) + ((vs.toArray).size : Int)).toNat = ns.length - 1 by simp; omega]
  simpa using hx
end
theorem allLt_all {d : Addr} {l : List (Addr × Obj)} (h : AllLt d l) : ∀ p ∈ l, p.1 < d := by
  induction l with
  | nil => intro p hp; exact absurd hp List.not_mem_nil
  | cons a l ih =>
    intro p hp
    have h' : @LT.lt Nat _ a.1 d ∧ AllLt d l := h
    rcases List.mem_cons.mp hp with e | hp
    · rw [e]; exact h'.1
    · exact ih h'.2 p hp
theorem tail_ne {d e : Addr} {l : List (Addr × Obj)} (h : ∀ p ∈ l, p.1 < e) (he : @LE.le Nat _ e d) : ∀ p ∈ l, p.1 ≠ d := fun p hp => Nat.ne_of_lt (Nat.lt_of_lt_of_le (h p hp) he)
theorem in1 {α : Type} {p a : α} {l o : List α} (h : p ∈ a :: l) : p ∈ a :: (l ++ o) := by
  rcases List.mem_cons.mp h with rfl | h
  · exact .head _
  · exact .tail _ (List.mem_append_left _ h)
theorem in2 {α : Type} {p a : α} {l o : List α} (h : p ∈ o) : p ∈ a :: (l ++ o) := .tail _ (List.mem_append_right _ h)
end Mine
end
namespace Mine
local macro_rules | `(tactic| k_room) => `(tactic| ktr_room)
-- part T4
section
open PySem PySem.W PyProof.Rows
set_option Elab.async false
set_option maxRecDepth 100000
def halves : Nat → Nat → Nat
  | 0, p => p
  | t + 1, p => halves t p / 2
def cl (s : Int) (t : Nat) : Nat → List Int
  | 0 => [s]
  | n + 1 => cl s t n ++ [(cl s t n).getD n 0 + (cl s t n).getD (halves t (n + 1)) 0]
theorem cl_len (s : Int) (t n : Nat) : (cl s t n).length = n + 1 := by
  induction n with
  | zero => rfl
  | succ n ih => simp [cl, ih]
theorem halves_le (t p : Nat) : halves t p ≤ p := by
  induction t with
  | zero => exact Nat.le_refl _
  | succ t ih => simp only [halves]; omega
theorem halves_lt (t p : Nat) (ht : 1 ≤ t) (hp : 1 ≤ p) : halves t p < p := by
  obtain ⟨t, rfl⟩ : ∃ k, t = k + 1 := ⟨t - 1, by omega⟩
  have := halves_le t p
  simp only [halves]; omega
set_option maxHeartbeats 8000000 in
theorem counts_spec {w : World} {mean : ExcName → Option Value} {mg mb : Str → Option Value} {st : Int} {size times : Nat} {t1 t2 t3 : Tok} {c : Nat} {t4 : Tok} {news : List (Addr × Obj)} :
    Cg w mean mg mb 137 news 3 (1 ≤ size ∧ size ≤ 60 ∧ 1 ≤ times ∧ times ≤ 3 ∧ c ≠ 34) [.int st t1, .int (size : Int) t2, .int (times : Int) t3, .str ⟨#[c]⟩ t4]
      (fun h₀ L m s Q => RtL h₀ L m news s Q (cl st times (size - 1))) := by
  unfold Cg RtL
  w_top off
  k_fill
  intros; rename_i hpre _ _ hret
  obtain ⟨h1, hs, ht1, ht3, hc⟩ := hpre
  refine wpAny_call ?_
  k_dflt cell_enter
  iterate 8 walk1
  rename_i lA hA FA NA lA1
  iterate 13 walk1
  rename_i rgX lF lN _
  have e1 : Builtin.Range.small 1 (size : Int) 1 = true := small_one (by omega) (by omega) (by omega) (by omega)
  with_unfolding_all refine' kst_range (σ := List Value × List Int × Nat) (fun c => (_, listOf c.1.toArray c.2.2) :: news) (fun c => []) (fun c => IntsAre c.1 c.2.1) [Str.ofString "place", Str.ofString "turn"] (fun pre c => c.2.1 = cl st times pre.length) ([.int st t1],[st],0) rfl rgX e1 (rangeSize_nat _ _) lF lN ?kf ?kk ?kp ?_ ?_
  · exact IntsAre.cons _ _ IntsAre.nil
  · exact fun _ hp => nomatch hp
  · rfl
  · clear rgX lF lN e1
    rintro ⟨vs, ns, en⟩ pre k tk1 u h tk2 own hk hlt hoff hfa hinv hFr hNews
    have hlen := hfa.length
    dsimp only [kstB] at hfa hinv hFr hNews hlen
    simp only [List.cons_append] at hNews
    subst hinv
    have hlen2 := cl_len st times pre.length
    (try k_fold)
    iterate 13 walk1
    rename_i rgX lF lN _
    have e2 : Builtin.Range.small 0 (times : Int) 1 = true := small_one (by omega) (by omega) (by omega) (by omega)
    with_unfolding_all refine' kst_range (σ := Int × Nat) (fun _ => (_, listOf vs.toArray en) :: (news ++ own)) (fun c => [(Str.ofString "place", .int c.1 c.2)]) (fun _ => True) [] (fun pr c => c.1 = ((halves pr.length (pre.length + 1) : Nat) : Int)) (k, tk1) rfl rgX e2 (rangeSize_nat _ _) lF lN trivial ?kk2 ?kp2 ?_ ?_
    · intro p hp
      rcases List.mem_singleton.mp hp with rfl
      rfl
    · show k = ((pre.length + 1 : Nat) : Int)
      omega
    · clear rgX lF lN e2
      rintro ⟨pl, tp⟩ pr k2 tk3 u2 h2 tk4 own2 hk2 hlt2 hoff2 _ hinv2 hFr2 hNews2
      dsimp only [kstB] at hinv2 hFr2 hNews2
      simp only [List.cons_append] at hNews2
      subst hinv2
      have hle := halves_le pr.length (pre.length + 1)
      (try k_fold)
      by_cases h0 : 0 < halves pr.length (pre.length + 1)
      · iterate 20 walk1
        k_dflt (refine' halved_spec (by k_asm) (by k_asm) (by k_asm) (by k_asm) (by k_asm) rfl ⟨h0, by omega, hc⟩ (by ktr_room) (by ktr_units) ?_)
        intro t9 h9 tk9 F9 N9
        (try dsimp only)
        iterate 5 walk1
        refine kst_end (σ := Int × Nat) (((halves pr.length (pre.length + 1) / 2 : Nat) : Int), t9) (by assumption) (by assumption) (fun p hp => in1 hp) (fun p hp => in2 hp) rfl trivial (by kst_all) (by kst_same) ?_
        simp [halves]
      · iterate 12 walk1
        refine kst_end (σ := Int × Nat) (((halves pr.length (pre.length + 1) : Nat) : Int), tp) (by assumption) (by assumption) (fun p hp => in1 hp) (fun p hp => in2 hp) rfl trivial (by kst_all) (by kst_same) ?_
        simp only [List.length_append, List.length_cons, List.length_nil, Nat.zero_add, halves]
        omega
    · clear rgX lF lN e2
      rintro ⟨pl, tp⟩ u2 h2 tk4 _ hinv2 hFr2 hNews2
      dsimp only [kstB] at hinv2 hFr2 hNews2
      simp only [rangeKs_length] at hinv2
      rw [show ((times : Int) - 0).toNat = times by omega] at hinv2
      subst hinv2
      have hlt3 := halves_lt times (pre.length + 1) ht1 (by omega)
      (try k_fold)
      iterate 16 walk1
      refine item_lastK (by is_list) hfa (by omega) ?_
      intro ti
      iterate 17 walk1
      have hap : ∀ p ∈ news ++ own, p.1 ≠ lA := fun p hp => by
        rcases List.mem_append.mp hp with h3 | h3
        · exact Nat.ne_of_lt (lA1 p h3)
        · exact hoff p h3 lA (.head _)
      k_dflt (refine' append_K (by k_asm) (by k_asm) (Upd.head hap) ?_ (by rw [List.size_toArray, hlen, hlen2, sizeLine_eq]; omega))
      intro h8 F8 N8
      iterate 3 walk1
      rw [List.push_toArray, hlen2, Nat.add_sub_cancel, Int.toNat_natCast] at N8
      refine kst_end (σ := List Value × List Int × Nat) (vs ++ [_], cl st times (pre.length + 1), en + 1) F8 N8 (fun p hp => in1 hp) (fun p hp => in2 hp) rfl ?_ (fun _ hp => nomatch hp) (by kst_same) ?_
      · exact hfa.append (.cons _ _ .nil)
      · show cl st times (pre.length + 1) = cl st times (pre ++ [k]).length
        rw [List.length_append]; rfl
  · clear rgX lF lN e1
    rintro ⟨vs, ns, en⟩ u h tk2 hfa hinv hFr hNews
    have hlen := hfa.length
    dsimp only [kstB] at hfa hinv hFr hNews hlen
    subst hinv
    (try k_fold)
    k_steps
    rw [rangeKs_length, show ((size : Int) - 1).toNat = size - 1 by omega] at hfa
    exact hret _ _ _ _ _ hfa (by assumption) (by assumption) lA1
end
-- part T5
section
open PySem PySem.W PyProof.Rows
set_option Elab.async false
set_option maxRecDepth 100000
def bump (coin : Nat) (ws : List Int) (a : Nat) : List Int := ws.set a (ws.getD a 0 + ws.getD (a - coin) 0)
def pass (coin : Nat) (ws : List Int) : Nat → List Int
  | 0 => ws
  | k + 1 => bump coin (pass coin ws k) (coin + k)
def wgo (top base : Nat) : Nat → Nat → List Int → List Int
  | 0, _, ws => ws
  | f + 1, coin, ws => if coin ≤ top then wgo top base f (coin * base) (pass coin ws (top + 1 - coin)) else ws
def waysL (top base : Nat) : List Int := wgo top base (top + 2) 1 (1 :: List.replicate top 0)
theorem sub_nat (a b : Nat) : ((a : Int) - (b : Int)).toNat = a - b := by omega
theorem top_nat {a b : Nat} : ((a : Int) + 1 - (b : Int)).toNat = a + 1 - b := by omega
theorem meas_nat {a b c : Nat} (h1 : 1 ≤ b) (h2 : b ≤ a) (hc : 2 ≤ c) : ((a : Int) + 1 - (b : Int) * (c : Int)).toNat < ((a : Int) + 1 - (b : Int)).toNat := by
  have hm : b * 2 ≤ b * c := Nat.mul_le_mul_left _ hc
  rw [← Int.natCast_mul]
  omega
def wInv (top base : Nat) (ns : List Int) (co : Int) : Prop := ∃ cn f : Nat, co = (cn : Int) ∧ 1 ≤ cn ∧ top + 2 ≤ f + cn ∧ wgo top base f cn ns = waysL top base ∧ ns.length = top + 1
theorem wInv_start (top base : Nat) : wInv top base ([1] ++ (List.replicate (top : Int).toNat [(0 : Int)]).flatten) 1 := by
  have e : ([1] ++ (List.replicate (top : Int).toNat [(0 : Int)]).flatten) = 1 :: List.replicate top 0 := by simp
  rw [e]
  exact ⟨1, top + 2, rfl, by omega, by omega, rfl, by simp⟩
theorem pass_len (coin k : Nat) (ws : List Int) : (pass coin ws k).length = ws.length := by
  induction k with
  | zero => rfl
  | succ k ih => simp [pass, bump, ih]
theorem wInv_end {top base cn f : Nat} {ns : List Int} (hW : wgo top base f cn ns = waysL top base) (h : ¬ cn ≤ top) : ns = waysL top base := by
  rw [← hW]
  cases f with
  | zero => rfl
  | succ f => simp only [wgo]; rw [if_neg h]
theorem wInv_next {top base cn f : Nat} {ns : List Int} (h1 : 1 ≤ cn) (hb : 2 ≤ base) (hf : top + 2 ≤ f + cn) (hW : wgo top base f cn ns = waysL top base) (hL : ns.length = top + 1) (h : cn ≤ top) :
    wInv top base (pass cn ns (top + 1 - cn)) ((cn : Int) * (base : Int)) := by
  have hm : cn * 2 ≤ cn * base := Nat.mul_le_mul_left _ hb
  cases f with
  | zero => omega
  | succ f =>
    refine ⟨cn * base, f, by simp, by omega, by omega, ?_, by rw [pass_len, hL]⟩
    rw [← hW]
    simp only [wgo]
    rw [if_pos h]
set_option maxHeartbeats 8000000 in
theorem ways_spec {w : World} {mean : ExcName → Option Value} {mg mb : Str → Option Value} {top base : Nat} {t1 t2 : Tok} {news : List (Addr × Obj)} :
    Cg w mean mg mb 144 news 2 (1 ≤ top ∧ top ≤ 1000 ∧ 2 ≤ base ∧ base ≤ 64) [.int (top : Int) t1, .int (base : Int) t2]
      (fun h₀ L m s Q => RtL h₀ L m news s Q (waysL top base)) := by
  unfold Cg RtL
  w_top off
  k_fill
  intros; rename_i hpre _ _ hret
  obtain ⟨h1, h2, h3, h4⟩ := hpre
  refine wpAny_call ?_
  k_dflt cell_enter
  iterate 20 walk1
  rename_i D1 ws1 hh1 FF1 NN1 hI1 lD1
  have lD2 : ∀ p ∈ news, p.1 < D1 := allLt_all lD1.2.2.2
  iterate 14 walk1
  rename News _ _ _ _ => lN
  rename Fr _ _ _ _ => lF
  with_unfolding_all refine' ksw_while (σ := List Value × List Int × Nat × Int × Nat) (fun c => (D1, listOf c.1.toArray c.2.2.1) :: news) (fun c => [(Str.ofString "coin", .int c.2.2.2.1 c.2.2.2.2)]) (fun c => IntsAre c.1 c.2.1) [Str.ofString "amount"] (fun c => wInv top base c.2.1 c.2.2.2.1) (fun c => ((top : Int) + 1 - c.2.2.2.1).toNat) (ws1, _, 0, 1, _) lF ?kn hI1 ?kk ?kp ?_
  case kn =>
    refine kst_newsOf lN ?_
    intro p hp
    rcases List.mem_cons.mp hp with rfl | hp
    · exact .tail _ (.head _)
    · exact .tail _ (.tail _ (.tail _ (.tail _ (.tail _ hp))))
  case kk => kst_all
  case kp => exact wInv_start top base
  clear lN lF hI1
  rintro ⟨vs, ns, en, co, ct⟩ u h tk3 hfa hinv hFr hNews
  have hlen := hfa.length
  dsimp only [kstB] at hfa hinv hFr hNews hlen
  obtain ⟨cn, f, rfl, hc1, hf, hW, hL⟩ := hinv
  (try k_fold)
  by_cases hct : cn ≤ top
  · iterate 20 walk1
    rename_i rgX lF lN _
    have e2 : Builtin.Range.small (cn : Int) ((top : Int) + 1) 1 = true := small_one (by omega) (by omega) (by omega) (by omega)
    with_unfolding_all refine' kst_range (σ := List Value × List Int × Nat) (fun c => (D1, listOf c.1.toArray c.2.2) :: news) (fun _ => []) (fun c => IntsAre c.1 c.2.1) [] (fun pr c => c.2.1 = pass cn ns pr.length) (vs, ns, en) rfl rgX e2 (rangeSize_nat _ _) lF lN hfa ?kk2 rfl ?_ ?_
    · exact fun _ hp => nomatch hp
    · clear rgX lF lN e2 hfa hlen
      rintro ⟨vs2, ns2, en2⟩ pr k2 tk5 u2 h2' tk4 own2 hk2 hlt2 hoff2 hfa2 hinv2 hFr2 hNews2
      have hlen2 := hfa2.length
      dsimp only [kstB] at hinv2 hFr2 hNews2 hfa2 hlen2
      simp only [List.cons_append] at hNews2
      subst hinv2
      rw [pass_len, hL] at hlen2
      have hpl : (pass cn ns pr.length).length = top + 1 := by rw [pass_len, hL]
      have hk3 : k2 = ((cn + pr.length : Nat) : Int) := by omega
      subst hk3
      have hpr : cn + pr.length ≤ top := by omega
      clear hlt2 hk2
      (try k_fold)
      iterate 17 walk1
      have hap : ∀ p ∈ news ++ own2, p.1 ≠ D1 := fun p hp => by
        rcases List.mem_append.mp hp with h3 | h3
        · exact Nat.ne_of_lt (lD2 p h3)
        · exact hoff2 p h3 D1 (.head _)
      k_dflt (refine' ksa_set (by k_asm) (by k_asm) (Upd.head hap) hfa2 (by omega) (by omega) (by omega) ?_)
      intro h8 F8 N8 hi8 _ _
      iterate 2 walk1
      refine kst_end (σ := List Value × List Int × Nat) (vs2.set _ _, pass cn ns (pr.length + 1), en2) F8 N8 (fun p hp => in1 hp) (fun p hp => in2 hp) rfl ?_ (fun _ hp => nomatch hp) (by kst_same) ?_
      · have e : ∀ a b : Nat, a = cn + pr.length → b = cn + pr.length - cn → (pass cn ns pr.length).set a ((pass cn ns pr.length).getD a 0 + (pass cn ns pr.length).getD b 0) = pass cn ns (pr.length + 1) := by rintro _ _ rfl rfl; rfl
        rw [e _ _ (Int.toNat_natCast _) (sub_nat _ _)] at hi8
        exact hi8
      · show pass cn ns (pr.length + 1) = pass cn ns (pr ++ [_]).length
        rw [List.length_append]; rfl
    · clear rgX lF lN e2
      rintro ⟨vs2, ns2, en2⟩ u2 h2' tk4 hfa2 hinv2 hFr2 hNews2
      dsimp only [kstB] at hinv2 hFr2 hNews2 hfa2
      simp only [rangeKs_length] at hinv2
      rw [top_nat] at hinv2
      subst hinv2
      (try k_fold)
      iterate 9 walk1
      have hnx := wInv_next hc1 h3 hf hW hL hct
      refine ksw_end (σ := List Value × List Int × Nat × Int × Nat) (vs2, pass cn ns (top + 1 - cn), en2, (cn : Int) * (base : Int), _) (by assumption) (by assumption) (fun p hp => hp) hfa2 (by kst_all) (by ksw_same) hnx ?_
      exact meas_nat hc1 hct h3
  · obtain rfl := wInv_end hW hct
    k_steps
    exact hret _ _ _ _ _ hfa (by assumption) (by assumption) lD2
end
-- part M1
section
open PySem PySem.W PyProof.Rows
set_option Elab.async false
theorem and_high (x s : Nat) : x &&& (x / 2 ^ s * 2 ^ s) = x / 2 ^ s * 2 ^ s := by
  apply Nat.eq_of_testBit_eq
  intro i
  rw [Nat.testBit_and, Nat.mul_comm, Nat.testBit_two_pow_mul]
  by_cases h : s ≤ i
  · simp [h, Nat.testBit_div_two_pow, Nat.sub_add_cancel h]
  · simp [h]
theorem bitAnd_nat (x y : Nat) : Builtin.bitAnd (x : Int) (y : Int) = ((x &&& y : Nat) : Int) := by
  unfold Builtin.bitAnd
  simp
theorem xor_low (x s : Nat) : Builtin.bitXor (x : Int) ((x / 2 ^ s * 2 ^ s : Nat) : Int) = ((x % 2 ^ s : Nat) : Int) := by
  rw [bitXor_and, bitAnd_nat, and_high]
  have := Nat.div_add_mod x (2 ^ s)
  rw [Nat.mul_comm] at this
  omega
theorem rsh_nat (x s : Nat) : ((x : Int).fdiv (2 ^ ((s : Int)).toNat)) = ((x / 2 ^ s : Nat) : Int) := by
  rw [Int.toNat_natCast, Int.fdiv_eq_ediv_of_nonneg _ (Int.le_of_lt (Int.pow_pos (by decide)))]
  simp
theorem sub_mid {lo mi hi : Nat} (h1 : lo ≤ mi) (h2 : mi ≤ hi) : mi - lo + (hi - mi) = hi - lo := by rw [Nat.add_comm]; exact Nat.sub_add_sub_cancel h2 h1
theorem addr_a {L1 lz DA : Nat} (h30 : 30 < L1) (hz : L1 + 1 + 1 + 1 < lz) (hD : lz < DA) : DA ≠ 30 ∧ lz ≠ 30 ∧ L1 + 1 + 1 + 1 ≠ 30 ∧ L1 + 1 + 1 ≠ 30 ∧ L1 + 1 ≠ 30 := by
  refine ⟨?_, ?_, ?_, ?_, ?_⟩ <;> omega
theorem addr_b {L1 lz DA f9 c9 : Nat} (h30 : 30 < L1) (hz : L1 + 1 + 1 + 1 < lz) (hD : lz < DA) (hf : DA < f9) (hc : c9 < L1 ∨ DA < c9) : f9 ≠ DA ∧ c9 ≠ DA ∧ L1 + 1 + 1 + 1 ≠ DA ∧ L1 + 1 + 1 ≠ DA ∧ L1 + 1 ≠ DA ∧ lz ≠ DA ∧ 30 ≠ DA ∧ L1 < DA := by
  refine ⟨?_, ?_, ?_, ?_, ?_, ?_, ?_, ?_⟩ <;> omega
theorem addr_c {L1 P : Nat} (h : P < L1) : L1 + 1 + 1 + 1 ≠ P ∧ L1 + 1 + 1 ≠ P ∧ L1 + 1 ≠ P := by
  refine ⟨?_, ?_, ?_⟩ <;> omega
def digs (b : Nat) : Nat → Nat → List Int
  | 0, _ => []
  | k + 1, x => ((x % b : Nat) : Int) :: digs b k (x / b)
theorem digs_len (b k x : Nat) : (digs b k x).length = k := by
  induction k generalizing x with
  | zero => rfl
  | succ k ih => simp [digs, ih]
theorem digs_add (b j k x : Nat) : digs b (j + k) x = digs b j (x % b ^ j) ++ digs b k (x / b ^ j) := by
  induction j generalizing x with
  | zero => simp [digs]
  | succ j ih =>
    rw [show j + 1 + k = (j + k) + 1 by omega]
    simp only [digs, List.cons_append]
    rw [ih (x / b), Nat.pow_succ, Nat.mul_comm (b ^ j) b, Nat.mod_mul_right_mod, Nat.mod_mul_right_div_self, Nat.div_div_eq_div_mul]
def put (ns : List Int) (lo : Nat) (ds : List Int) : List Int := ns.take lo ++ ds ++ ns.drop (lo + ds.length)
theorem put_len (ns : List Int) (lo : Nat) (ds : List Int) (h : lo + ds.length ≤ ns.length) : (put ns lo ds).length = ns.length := by
  simp [put]; omega
theorem put_one (ns : List Int) (lo b x : Nat) (h : lo < ns.length) (hx : x < b) : ns.set lo (x : Int) = put ns lo (digs b 1 x) := by
  simp only [put, digs, List.length_cons, List.length_nil, Nat.mod_eq_of_lt hx]
  rw [List.set_eq_take_append_cons_drop, if_pos h]
  simp
theorem put_put (ns : List Int) (lo : Nat) (d1 d2 : List Int) (h : lo + d1.length + d2.length ≤ ns.length) : put (put ns lo d1) (lo + d1.length) d2 = put ns lo (d1 ++ d2) := by
  unfold put
  have h1 : (List.take lo ns ++ d1).length = lo + d1.length := by simp; omega
  rw [List.take_append_of_le_length (by rw [h1]; exact Nat.le_refl _), List.take_of_length_le (by rw [h1]; exact Nat.le_refl _), List.drop_append, h1]
  rw [List.drop_eq_nil_of_le (by rw [h1]; omega), List.nil_append, List.drop_drop]
  simp [Nat.add_assoc]
theorem put_digs (ns : List Int) (b lo mi hi x : Nat) (h1 : lo < mi) (h2 : mi < hi) (h3 : hi ≤ ns.length) :
    put (put ns lo (digs b (mi - lo) (x % b ^ (mi - lo)))) mi (digs b (hi - mi) (x / b ^ (mi - lo))) = put ns lo (digs b (hi - lo) x) := by
  have e := put_put ns lo (digs b (mi - lo) (x % b ^ (mi - lo))) (digs b (hi - mi) (x / b ^ (mi - lo))) (by rw [digs_len, digs_len]; omega)
  rw [digs_len, show lo + (mi - lo) = mi by omega] at e
  rw [e, ← digs_add, sub_mid (Nat.le_of_lt h1) (Nat.le_of_lt h2)]
theorem put_all (ns ds : List Int) (h : ds.length = ns.length) : put ns 0 ds = ds := by
  unfold put
  rw [List.take_zero, List.nil_append, Nat.zero_add, List.drop_eq_nil_of_le (by omega), List.append_nil]
theorem mid_facts {lo hi k N n : Nat} (q1 : hi ≤ lo + (k + 1)) (q2 : lo < hi) (hb : ¬ lo + 1 = hi) (q3 : hi ≤ N) (q6 : N ≤ 1000) (hn : n ≤ 64) :
    ∃ mi sh : Nat, lo < mi ∧ mi < hi ∧ ((lo : Int) + (hi : Int)).fdiv (2 ^ (1 : Int).toNat) = (mi : Int) ∧ ((mi : Int) - (lo : Int)) * (n : Int) = (sh : Int) ∧ 2 ^ sh = (2 ^ n) ^ (mi - lo) ∧ sh ≤ 64000 ∧ mi ≤ lo + k ∧ hi ≤ mi + k ∧ mi ≤ N ∧
      mi - lo + (hi - mi) = hi - lo ∧ lo + (mi - lo) ≤ N := by
  obtain ⟨mi, hmi, h1, h2⟩ : ∃ mi : Nat, (lo + hi) / 2 = mi ∧ lo < mi ∧ mi < hi := ⟨_, rfl, by omega, by omega⟩
  have em : ((lo : Int) + (hi : Int)).fdiv (2 ^ (1 : Int).toNat) = (mi : Int) := by
    rw [show ((lo : Int) + (hi : Int)) = ((lo + hi : Nat) : Int) from (Int.natCast_add _ _).symm, show (1 : Int) = ((1 : Nat) : Int) by rfl, rsh_nat, ← hmi]
  clear hmi hb q2
  have hmN : mi ≤ N := Nat.le_trans (Nat.le_of_lt h2) q3
  refine ⟨mi, (mi - lo) * n, h1, h2, em, ?_, by rw [Nat.mul_comm, Nat.pow_mul], ?_, by clear em; omega, by clear em; omega, hmN, sub_mid (Nat.le_of_lt h1) (Nat.le_of_lt h2), ?_⟩
  · rw [Int.natCast_mul, Int.natCast_sub (Nat.le_of_lt h1)]
  · exact Nat.le_trans (Nat.mul_le_mul (Nat.le_trans (Nat.sub_le _ _) (Nat.le_trans hmN q6)) hn) (by decide)
  · rw [Nat.add_sub_cancel' (Nat.le_of_lt h1)]; exact hmN
end
-- part D1
section
open PySem PySem.W PyProof.Rows
open PySem.Calls
set_option Elab.async false
set_option maxRecDepth 100000
def TS (P : Addr) (l c : Int) : Option (Addr × Obj) → List (Addr × Obj)
  | none => [(P, tabObj #[])]
  | some q => [(P, tabObj #[rawInt l, rawInt c, .ref q.1]), q]
def TOk (qual : Str) : Option (Addr × Obj) → Prop
  | none => True
  | some q => ∃ vs t, q.2.data = .fields vs ∧ vs[1]? = some (.str qual t)
section
variable {M : Model} {A : Around} {E : Value → Shared → Prop} {s : Shared} {cn : Str} {cs : Scope} {L a : Addr} {ccd : Value} {cl : List (Str × Addr)} {h₀ : Heap} {m mg mb : Str → Option Value} {rest : List (Addr × Obj)} {c P : Addr}
  {p : Program} {loose : List Str} {mean : ExcName → Option Value} {name qual : Str} {params : Arguments} {body : List Stmt} {scope : Scope} {pos : Pos} {firstLine : Nat} {clos : List (Str × Addr)} {st : Option (Addr × Obj)}
theorem def_any {Q : Value → Shared → Prop} (F : Fr h₀ L s.heap m) (N : News h₀ L s.heap (TS P pos.line pos.col st ++ rest)) (T : Top p loose mean mg mb h₀) (C : CodeHd h₀ c P) (hcd : ccd = .ref c) (hr : ∀ p ∈ rest, p.1 ≠ P) (hok : TOk qual st)
    (hcl : closureFor scope (envX cn cs L a ccd cl) = pure clos)
    (h : ∀ f q ctv doc h' tk, Fr h₀ L h' m →
      News h₀ L h' ((f, fnMade name qual params body scope clos doc ((mg "__name__").getD .none) q.1 ctv) :: (TS P pos.line pos.col (some q) ++ rest)) →
      TOk qual (some q) → (∀ p ∈ rest, p.1 < f) → (st = some q ∨ ∀ p ∈ rest, p.1 < q.1) → @LT.lt Nat _ P f → @LT.lt Nat _ q.1 f → Q (.ref f) { s with heap := h', toks := tk }) :
    wpAny M A (makeFunction name qual params (.stmts body) scope (envX cn cs L a ccd cl) [] [] [] pos firstLine) Q E s := by
  cases st with
  | none =>
    refine nest_K (ps := #[]) F N T C hcd (UpdF.head hr) trivial rfl hcl ?_
    intro f c' oc vs t ctv doc h' tk F' N' d1 d2 l1 l2
    refine h f (c', oc) ctv doc h' tk F' ?_ ⟨vs, t, d1, d2⟩ (fun p hp => Nat.lt_trans (l1 p (.tail _ hp)) l2) (.inr fun p hp => l1 p (.tail _ hp)) (Nat.lt_trans (l1 _ (.head _)) l2) l2
    intro p hp
    simp only [TS, List.cons_append, List.nil_append, List.mem_cons] at hp
    refine N' p ?_
    simp only [List.mem_cons]
    rcases hp with h | h | h | h
    · exact .inl h
    · exact .inr (.inr (.inl h))
    · exact .inr (.inl h)
    · exact .inr (.inr (.inr h))
  | some q =>
    refine nestHit_K (ps := #[rawInt pos.line, rawInt pos.col, .ref q.1]) (c' := q.1) F N T C hcd (.head _) ?_ ?_ hcl ?_
    · simp [TriplesOk, rawInt]
    · simp [codeAmong, rawInt]
    · intro f ctv doc h' tk F' N' l1
      exact h f q ctv doc h' tk F' N' hok (fun p hp => l1 p (.tail _ (.tail _ hp))) (.inl rfl) (l1 _ (.head _)) (l1 _ (.tail _ (.head _)))
end
end
-- part K0
section
open PySem PySem.W PyProof.Rows
set_option Elab.async false
set_option maxRecDepth 100000
theorem runs_toks {M : Model} {Γ : Ctx} {p : Pos} {t : Sem Fin} {fs : List Frame} {s : Shared} {e : End} {s' : Shared} (h : Runs M Γ p t fs s e s') : s.toks ≤ s'.toks := by
  induction h with
  | done => exact Nat.le_refl _
  | raise => exact Nat.le_refl _
  | again _ _ ih => exact ih
  | rule _ ih => exact ih
  | «at» _ ih => exact ih
  | load _ _ ih => exact ih
  | update _ _ ih => exact ih
  | loadIfAlive _ ih => exact ih
  | point _ ih => exact ih
  | alloc _ ih => exact ih
  | fresh _ ih => exact Nat.le_trans (Nat.le_succ _) ih
  | ask _ ih => exact ih
  | choose _ _ ih => exact ih
  | os _ ih => exact ih
  | handled _ ih => exact ih
  | genState _ _ ih => exact ih
  | stack _ ih => exact ih
  | thread _ ih => exact ih
  | newGen _ ih => exact ih
  | call _ _ i1 i2 => exact Nat.le_trans i1 i2
  | callSusp _ ih => exact ih
  | yield => exact Nat.le_refl _
  | resumeFresh _ _ _ _ i1 i2 => exact Nat.le_trans i1 i2
  | resumeSuspended _ _ _ _ i1 i2 => exact Nat.le_trans i1 i2
  | resumeJustStarted _ _ _ ih => exact ih
  | resumeThrowFresh _ _ ih => exact ih
  | resumeRunning _ _ ih => exact ih
  | resumeFinished _ _ ih => exact ih
  | segRet _ _ i1 i2 => exact Nat.le_trans i1 i2
  | segGen _ _ i1 i2 => exact Nat.le_trans i1 i2
  | segSuspOut _ _ ih => exact ih
  | segSuspGen _ _ _ _ i1 i2 => exact Nat.le_trans i1 i2
theorem wakes_toks {M : Model} {Γ : Ctx} {p : Pos} {g : Nat} {r : Resume} {s : Shared} {res : GenResult} {s' : Shared} (h : Wakes M Γ p g r s res s') : s.toks ≤ s'.toks := by
  unfold Wakes at h
  split at h
  · exact absurd h id
  · split at h
    · obtain ⟨e₁, s₁, hr, _, _, rfl⟩ := h
      (have q := runs_toks hr; exact q)
    · obtain ⟨_, rfl⟩ := h; exact Nat.le_refl _
    · obtain ⟨_, rfl⟩ := h; exact Nat.le_refl _
  · obtain ⟨e₁, s₁, hr, _, _, rfl⟩ := h
    (have q := runs_toks hr; exact q)
  all_goals (obtain ⟨_, rfl⟩ := h; exact Nat.le_refl _)
theorem wp_tk {α : Type} {M : Model} {Γ : Ctx} (t : Sem α) (Q : α → Pos → Shared → Prop) (E : Value → Pos → Shared → Prop) (k : Nat) : ∀ (p : Pos) (s : Shared), k ≤ s.toks →
    Sem.wp M Γ t (fun a p s' => k ≤ s'.toks → Q a p s') E p s → Sem.wp M Γ t Q E p s := by
  induction t with
  | pure a => intro p s hk h; rw [Sem.wp] at h ⊢; exact h hk
  | raise e => intro p s hk h; rw [Sem.wp] at h ⊢; exact h
  | unsupported w => intro p s hk h; rw [Sem.wp] at h; exact absurd h id
  | finish w => intro p s hk h; rw [Sem.wp] at h; exact absurd h id
  | rule _ _ ih => intro p s hk h; rw [Sem.wp] at h ⊢; exact ih _ _ _ hk h
  | «at» _ _ ih => intro p s hk h; rw [Sem.wp] at h ⊢; exact ih _ _ _ hk h
  | load _ _ _ ih => intro p s hk h; rw [Sem.wp] at h ⊢; obtain ⟨o, ho, h⟩ := h; exact ⟨o, ho, ih _ _ _ hk h⟩
  | update _ _ _ _ ih => intro p s hk h; rw [Sem.wp] at h ⊢; exact ⟨h.1, ih _ _ _ hk h.2⟩
  | loadIfAlive _ _ ih => intro p s hk h; rw [Sem.wp] at h ⊢; exact ih _ _ _ hk h
  | point _ _ ih => intro p s hk h; rw [Sem.wp] at h ⊢; exact ih _ _ _ hk h
  | register _ _ ih => intro p s hk h; rw [Sem.wp] at h; exact absurd h id
  | alloc _ _ ih => intro p s hk h; rw [Sem.wp] at h ⊢; exact ih _ _ _ hk h
  | fresh _ ih => intro p s hk h; rw [Sem.wp] at h ⊢; exact ih _ _ _ (Nat.le_succ_of_le hk) h
  | ask _ ih => intro p s hk h; rw [Sem.wp] at h ⊢; exact ih _ _ _ hk h
  | choose _ _ _ ih => intro p s hk h; rw [Sem.wp] at h ⊢; exact ⟨h.1, ih _ _ _ hk h.2⟩
  | os _ _ _ ih => intro p s hk h; rw [Sem.wp] at h ⊢; exact ih _ _ _ hk h
  | call _ _ _ _ _ ih =>
    intro p s hk h
    rw [Sem.wp] at h ⊢
    obtain ⟨r, s', hr, h⟩ := h
    exact ⟨r, s', hr, ih _ _ _ (Nat.le_trans hk (runs_toks hr)) h⟩
  | handled _ _ ih => intro p s hk h; rw [Sem.wp] at h ⊢; exact ih _ _ _ hk h
  | genState _ _ ih => intro p s hk h; rw [Sem.wp] at h ⊢; obtain ⟨o, ho, h⟩ := h; exact ⟨o, ho, ih _ _ _ hk h⟩
  | newGen _ _ ih => intro p s hk h; rw [Sem.wp] at h ⊢; exact ih _ _ _ hk h
  | resume _ _ _ _ ih =>
    intro p s hk h
    rw [Sem.wp] at h ⊢
    obtain ⟨r, s', hr, h⟩ := h
    exact ⟨r, s', hr, ih _ _ _ (Nat.le_trans hk (wakes_toks hr)) h⟩
  | yield _ _ _ _ ih => intro p s hk h; rw [Sem.wp] at h; exact absurd h id
  | stack _ ih => intro p s hk h; rw [Sem.wp] at h ⊢; exact ih _ _ _ hk h
  | fork _ _ ih => intro p s hk h; rw [Sem.wp] at h; exact absurd h id
  | thread _ ih => intro p s hk h; rw [Sem.wp] at h ⊢; exact ih _ _ _ hk h
  | await _ _ _ _ _ ih => intro p s hk h; rw [Sem.wp] at h; exact absurd h id
theorem wpAny_tk {α : Type} {M : Model} {A : Around} {t : Sem α} {Q : α → Shared → Prop} {E : Value → Shared → Prop} {s : Shared} (h : wpAny M A t (fun a s' => s.toks ≤ s'.toks → Q a s') E s) : wpAny M A t Q E s :=
  fun Γ p hΓ => wp_tk t _ _ s.toks p s (Nat.le_refl _) (h Γ p hΓ)
theorem wpAny_gen {α : Type} {M : Model} {A : Around} {t : Sem α} {Q : α → Shared → Prop} {E : Value → Shared → Prop} {s : Shared} {h : Heap} {k : Nat} (H : ∀ k', k < k' → wpAny M A t Q E { s with heap := h, toks := k' }) : wpAny M A t Q E { s with heap := h, toks := k + 1 } := H _ (Nat.lt_succ_self _)
end
-- part K1
section
open PySem PySem.W PyProof.Rows
open PySem.Spec PySem.Calls
set_option Elab.async false
set_option maxRecDepth 100000
section
variable {prog : Program} {w : World} {A₀ A : Around} {s : Shared} {base h₀ : Heap} {outer : List Env} {L : Addr} {m mg mb : Str → Option Value} {env : Env} {news : List (Addr × Obj)} {K : Frag} {p : Program} {loose : List Str} {mean : ExcName → Option Value}
/-- entry of a function with cells, with the order of the tokens kept -/
theorem enter_tk {R : Result → Shared → Prop} {name qual : Str} {params : Arguments} {body : List Stmt} {scope : Scope} {dV kV doc pm cdv ct oc : Value} {an od : Option Addr} {osl : Array (Option Value)} {f : Addr} {args : Args} {binds : List (Str × Value)}
    (B : Below A₀ base outer h₀) (F : Fr h₀ L s.heap m) (X₀ : K.In h₀) (N : News h₀ L s.heap news) (T : Top p loose mean mg mb h₀) (hA : A.frames = some (env :: outer)) (hf : env.frame = some L) (hke : env.scope.kind = .function)
    (ho : K.lookup f = some ⟨oc, od, .func (fnOf name qual params body scope dV kV doc pm an cdv ct), osl⟩) (hcd : codeIn K cdv qual = true) (hroom : A.depth < recursionLimit)
    (hbind : BindsTo s (fnOf name qual params body scope dV kV doc pm an cdv ct) args binds) (hkind : (binds.all fun y => scope.names.lookup y.1 == some .local || scope.names.lookup y.1 == some .cell) = true)
    (hnd : ((cellsFrom 0 scope.names []).map (·.1)).Nodup)
    (h : ∀ g L' h₁ tk cells, s.toks ≤ tk → Fr h₀ L g m → Fr g L' h₁ (bindL (envOfC qual scope L' f cdv).kindOf binds fun _ => none) → News g L' h₁ (cells ++ news) →
      CellsAre (bindC (envOfC qual scope L' f cdv).kindOf binds fun _ => none) (cellsFrom (L' + 1) scope.names []) cells → Below A base (env :: outer) g → K.In g → Top p loose mean mg mb g → (∀ p ∈ news, p.1 < L') →
      wpAny (model prog w) (A.deeper (envOfC qual scope L' f cdv)) (execs body (envOfC qual scope L' f cdv))
        (fun fl s' => LeaveK h₀ L m g R (match fl with | .ret v => v | _ => .none) s')
        (fun e s' => wpAny (model prog w) (A.deeper (envOfC qual scope L' f cdv)) (leaving (envOfC qual scope L' f cdv) e) (fun _ s'' => R (.error e) s'') (fun e' s'' => R (.error e') s'') s')
        { s with heap := h₁, toks := tk })
    (hco : scope.isCoroutine = false) (hgen : scope.isGenerator = false) (hk : scope.kind = .function) : codeAny (model prog w) A (.call (.ref f) args) R s := by
  obtain ⟨FG, BG, st, lv⟩ := groundX (R := R) B F N hA hf hke
  have X := X₀.keeps F.keep
  refine codeAny_call_function hroom (X _ _ ho) rfl hco hgen rfl (codeRec_of X hcd) (hbind _ _ _ _ ?_)
  refine wpAny_tk (wpAny_newFunctionEnv_cells hk (kindsX hkind _) fun env' he s' x => ?_)
  intro hle
  subst he
  refine ⟨(T.nolimit.keeps F.keep).keeps x.toInCall.keep, codeAny_func ?_⟩
  obtain ⟨h₁, tk, rfl, _⟩ := x.done
  have hk₁ := x.toInCall.keep
  obtain ⟨cells, NC, Y⟩ := Cl.news (h₀ := s.heap) (Nat.le_refl _) fun n c hm => ⟨x.cell n c (lookup_of_mem_nodup (cellsFrom_names scope.names 0 (s.heap.objs.size + 1) [] [] rfl ▸ hnd) hm), x.above n c hm⟩
  refine wpAny_mono (h _ s.heap.objs.size h₁ tk cells hle FG ⟨x.toInCall.ns, fun b o e => hk₁ b o (of_hideAll _ e), Nat.le_of_eq (hideAll_size _ _)⟩ (fun p hp => ?_) Y BG (X₀.keeps st) (T.keeps st) (fun p hp => Heap.lt_size (N p hp).1)) (fun fl s' hl => lv _ _ hl) fun _ _ y => y
  rcases List.mem_append.mp hp with hp | hp
  · refine ⟨(NC p hp).1, (NC p hp).2.1, ?_⟩
    cases q : (hideAll s.heap (news.map (·.1))).get? p.1 with
    | none => rfl
    | some o =>
      have q2 := of_hideAll _ q
      rw [(NC p hp).2.2] at q2
      cases q2
  · exact ⟨hk₁ _ _ (N p hp).1, Nat.ne_of_lt (Heap.lt_size (N p hp).1), hideAll_none _ (List.mem_map_of_mem hp)⟩
end
end
-- part M2
section
set_option Elab.async false
def undigN (b : Nat) : List Nat → Nat
  | [] => 0
  | d :: r => d + b * undigN b r
theorem undigN_append (b : Nat) (xs ys : List Nat) : undigN b (xs ++ ys) = undigN b xs + b ^ xs.length * undigN b ys := by
  induction xs with
  | nil => simp [undigN]
  | cons d r ih =>
    simp only [List.cons_append, undigN, ih, List.length_cons, Nat.pow_succ]
    rw [Nat.mul_add, ← Nat.mul_assoc, Nat.mul_comm b (b ^ r.length), Nat.add_assoc]
theorem undigN_lt (b : Nat) (xs : List Nat) (hx : ∀ d ∈ xs, d < b) : undigN b xs < b ^ xs.length := by
  induction xs with
  | nil => simp [undigN]
  | cons d r ih =>
    have h1 := hx d (.head _)
    have h2 := ih fun e he => hx e (.tail _ he)
    simp only [undigN, List.length_cons, Nat.pow_succ]
    have h3 : b * (undigN b r + 1) ≤ b * b ^ r.length := Nat.mul_le_mul_left _ h2
    rw [Nat.mul_add] at h3
    rw [Nat.mul_comm (b ^ r.length)]
    omega
def seg (ds : List Nat) (lo hi : Nat) : List Nat := (ds.drop lo).take (hi - lo)
theorem seg_len (ds : List Nat) (lo hi : Nat) (h1 : lo ≤ hi) (h2 : hi ≤ ds.length) : (seg ds lo hi).length = hi - lo := by
  simp [seg]; omega
theorem seg_all (ds : List Nat) : seg ds 0 ds.length = ds := by simp [seg]
theorem seg_split (ds : List Nat) (lo mi hi : Nat) (h1 : lo ≤ mi) (h2 : mi ≤ hi) : seg ds lo hi = seg ds lo mi ++ seg ds mi hi := by
  unfold seg
  rw [← sub_mid h1 h2, List.take_add, List.drop_drop, Nat.add_sub_cancel' h1]
theorem seg_one (ds : List Nat) (lo : Nat) (h : lo < ds.length) : seg ds lo (lo + 1) = [ds.getD lo 0] := by
  unfold seg
  rw [show lo + 1 - lo = 1 by omega, List.drop_eq_getElem_cons h, List.take_succ_cons, List.take_zero, List.getD_eq_getElem?_getD, List.getElem?_eq_getElem h]
  rfl
theorem seg_mem (ds : List Nat) (lo hi d : Nat) (h : d ∈ seg ds lo hi) : d ∈ ds := List.mem_of_mem_drop (List.mem_of_mem_take h)
theorem und_seg (b : Nat) (ds : List Nat) (lo mi hi : Nat) (h1 : lo ≤ mi) (h2 : mi ≤ hi) (h3 : hi ≤ ds.length) :
    undigN b (seg ds mi hi) * b ^ (mi - lo) + undigN b (seg ds lo mi) = undigN b (seg ds lo hi) := by
  rw [seg_split ds lo mi hi h1 h2, undigN_append, seg_len ds lo mi h1 (by omega), Nat.mul_comm, Nat.add_comm]
def hornN (b : Nat) (qs : List Nat) : Nat := qs.foldl (fun v q => v * b + q) 0
theorem horn_snoc (b : Nat) (qs : List Nat) (q : Nat) : hornN b (qs ++ [q]) = hornN b qs * b + q := by simp [hornN]
theorem und_rev (b : Nat) (qs : List Nat) : undigN b qs.reverse = hornN b qs := by
  suffices h : ∀ qs : List Nat, undigN b qs = hornN b qs.reverse by
    have := h qs.reverse
    rwa [List.reverse_reverse] at this
  intro qs
  induction qs with
  | nil => rfl
  | cons q r ih => rw [List.reverse_cons, horn_snoc, ← ih, undigN, Nat.mul_comm, Nat.add_comm]
def digN (b : Nat) : Nat → Nat → List Nat
  | 0, _ => []
  | k + 1, x => (x % b) :: digN b k (x / b)
theorem digN_map (b k x : Nat) : digs b k x = (digN b k x).map (fun d : Nat => ((d : Nat) : Int)) := by
  induction k generalizing x with
  | zero => rfl
  | succ k ih => simp [digs, digN, ih]
theorem digN_len (b k x : Nat) : (digN b k x).length = k := by
  induction k generalizing x with
  | zero => rfl
  | succ k ih => simp [digN, ih]
theorem digN_und (b k x : Nat) (h : x < b ^ k) : undigN b (digN b k x) = x := by
  induction k generalizing x with
  | zero => simp at h; subst h; rfl
  | succ k ih =>
    simp only [digN, undigN]
    rw [ih (x / b) (by apply Nat.div_lt_of_lt_mul; rw [Nat.pow_succ, Nat.mul_comm] at h; exact h)]
    exact Nat.mod_add_div x b
theorem digN_lt (b k x d : Nat) (hb : 0 < b) (h : d ∈ digN b k x) : d < b := by
  induction k generalizing x with
  | zero => simp [digN] at h
  | succ k ih =>
    simp only [digN, List.mem_cons] at h
    rcases h with rfl | h
    · exact Nat.mod_lt _ hb
    · exact ih _ h
theorem horn_div (B b V d : Nat) (hb : 1 ≤ b) : (V * B + d) / b = V / b * B + (V % b * B + d) / b := by
  have h := Nat.div_add_mod V b
  have e : V * B + d = b * (V / b * B) + (V % b * B + d) := by
    rw [← Nat.mul_assoc, ← Nat.add_assoc, ← Nat.add_mul, h]
  rw [e, Nat.mul_add_div (by omega)]
theorem horn_mod (B b V d : Nat) : (V * B + d) % b = (V % b * B + d) % b := by
  have h := Nat.div_add_mod V b
  have e : V * B + d = b * (V / b * B) + (V % b * B + d) := by
    rw [← Nat.mul_assoc, ← Nat.add_assoc, ← Nat.add_mul, h]
  rw [e, Nat.mul_add_mod]
theorem q_lt (B b r d : Nat) (hr : r < b) (hd : d < B) : (r * B + d) / b < B := by
  apply Nat.div_lt_of_lt_mul
  have h : (r + 1) * B ≤ b * B := Nat.mul_le_mul_right _ hr
  rw [Nat.add_mul] at h
  omega
def nats (ds : List Nat) : List Int := ds.map (fun d : Nat => ((d : Nat) : Int))
theorem nats_snoc (ds : List Nat) (d : Nat) : nats (ds ++ [d]) = nats ds ++ [(d : Int)] := by simp [nats]
theorem nats_mem {ds : List Nat} {n : Int} (h : n ∈ nats ds) : ∃ d ∈ ds, n = (d : Int) := by
  obtain ⟨d, hd, rfl⟩ := List.mem_map.mp h
  exact ⟨d, hd, rfl⟩
theorem nats_inj {ds es : List Nat} (h : nats ds = nats es) : ds = es := by
  unfold nats at h
  exact (List.map_inj_right (fun a b e => Int.ofNat.inj e)).mp h
theorem nats_rev (ds : List Nat) : (nats ds).reverse = nats ds.reverse := by simp [nats]
end
local macro_rules | `(tactic| k_all) => `(tactic| (refine' tail_ne ?mh ?me; (case mh => assumption); (case me => omega)))
local macro_rules | `(tactic| k_all) => `(tactic| assumption)
-- part T6
section
open PySem PySem.W PyProof.Rows
set_option Elab.async false
set_option maxRecDepth 100000
abbrev Ch (w : World) (mean : ExcName → Option Value) (mg mb : Str → Option Value) (f : Addr) (news : List (Addr × Obj)) (D : Nat) (pre : Prop) (vs : List Value)
    (K : Heap → Addr → (Str → Option Value) → Shared → (Value → Shared → Prop) → Prop) : Prop :=
  ∀ {dp un : Nat} {gd : Option (List Code)} {cn : Str} {cs : Scope} {a : Addr} {ccd : Value} {cl : List (Str × Addr)} {outer : List Env} {A₀ : Around} {base h₀ : Heap} {L : Addr} {m : Str → Option Value} {s : Shared} {Q E : Value → Shared → Prop},
    CodeHd base 34 30 → CodeHd base 41 37 → Below A₀ base outer h₀ → Fr h₀ L s.heap m → (hd.heap_39 w.params).In h₀ → News h₀ L s.heap news → Top topProg lo mean mg mb h₀ → cs.kind = .function →
    pre → dp + D < recursionLimit → un + 8 * D < cLine → K h₀ L m s Q →
      wpAny (model PySem.Challenge.rw_wj0024_01.row.prog w) (ktrTop dp un gd cn cs L a ccd cl outer) (call (.ref f) vs) Q E s
theorem regA {h₀ h : Heap} {L : Addr} {x1 x2 x3 x4 x5 : Addr × Obj} {T news : List (Addr × Obj)} (N : News h₀ L h (x1 :: x2 :: x3 :: x4 :: x5 :: (T ++ news))) : News h₀ L h (T ++ (x1 :: x2 :: x3 :: x4 :: x5 :: news)) := fun p hp => N p (by
  simp only [List.mem_cons, List.mem_append] at hp ⊢
  rcases hp with h | h | h | h | h | h | h <;> simp [h])
theorem regroup {h₀ h : Heap} {L f : Addr} {fo : Obj} {xl xc xD xI xd xn xt : Addr × Obj} {rest : List (Addr × Obj)} (N : News h₀ L h ((f, fo) :: xt :: xc :: xD :: xl :: xI :: xd :: xn :: rest)) :
    ∃ fO nw, fO = fo ∧ nw = xl :: xt :: rest ∧ News h₀ L h (xD :: (f, fO) :: xc :: xI :: xd :: xn :: nw) := by
  refine ⟨_, _, rfl, rfl, fun p hp => N p ?_⟩
  simp only [List.mem_cons] at hp ⊢
  rcases hp with h | h | h | h | h | h | h | h | h <;> simp [h]
theorem ts_head {P : Addr} {l c : Int} {st : Option (Addr × Obj)} {news : List (Addr × Obj)} {L : Addr} (h : ∀ p ∈ TS P l c st ++ news, p.1 < L) : @LT.lt Nat _ P L ∧ (∀ q, st = some q → @LT.lt Nat _ q.1 L) ∧ ∀ p ∈ news, p.1 < L := by
  refine ⟨?_, ?_, fun p hp => h p (List.mem_append_right _ hp)⟩
  · cases st with
    | none => exact h _ (.head _)
    | some q => exact h _ (.head _)
  · rintro q rfl
    exact h _ (.tail _ (.head _))
def qDig : Str := Str.ofString "_int2digits" ++ ".<locals>." ++ Str.ofString "inner"
abbrev DigPre (a n D : Nat) (news : List (Addr × Obj)) (st : Option (Addr × Obj)) : Prop :=
  1 ≤ n ∧ n ≤ 64 ∧ ((Builtin.Int.intBits (a : Int) : Int) + (n : Int) - 1).fdiv (n : Int) = (D : Int) ∧ D ≤ 64 ∧ (a ≠ 0 → 1 ≤ D) ∧ (a = 0 → D = 0) ∧ a < 2 ^ 64 ∧ a < (2 ^ n) ^ D ∧ (∀ p ∈ news, p.1 ≠ 30) ∧ TOk qDig st
def TkLt (vs : List Value) (k : Nat) : Prop := ∀ v ∈ vs, ∃ (i : Int) (t : Nat), v = .int i t ∧ 0 < t ∧ t < k
theorem TkLt.le {vs : List Value} {k k' : Nat} (h : TkLt vs k) (hk : k ≤ k') : TkLt vs k' := fun v hv => by
  obtain ⟨i, t, e, h0, h1⟩ := h v hv
  exact ⟨i, t, e, h0, Nat.lt_of_lt_of_le h1 hk⟩
theorem TkLt.set {vs : List Value} {k i : Nat} {x : Int} {t : Nat} (h : TkLt vs k) (h0 : 0 < t) (h1 : t < k) : TkLt (vs.set i (.int x t)) k := fun v hv => by
  rcases List.mem_or_eq_of_mem_set hv with hv | rfl
  · exact h v hv
  · exact ⟨x, t, rfl, h0, h1⟩
theorem TkLt.rep {n k : Nat} {x : Int} {t : Nat} (h0 : 0 < t) (h1 : t < k) : TkLt (List.replicate n [Value.int x t]).flatten k := fun v hv => by
  simp only [List.mem_flatten, List.mem_replicate] at hv
  obtain ⟨l, ⟨_, rfl⟩, hv⟩ := hv
  rw [List.mem_singleton.mp hv]
  exact ⟨x, t, rfl, h0, h1⟩
set_option maxHeartbeats 8000000 in
theorem digits_gen {w : World} {mean : ExcName → Option Value} {mg mb : Str → Option Value} {a n D : Nat} {t1 t2 : Tok} {news : List (Addr × Obj)} {st : Option (Addr × Obj)} {P : Prop} :
    Ch w mean mg mb 35 (TS 30 32 4 st ++ news) 100 (DigPre a n D news st) [.int (a : Int) t1, .int (n : Int) t2]
      (fun h₀ L m s Q => (P → @LT.lt Nat _ 0 t1 ∧ @LT.lt Nat _ t1 s.toks) ∧ ∀ (l : Addr) (vs : List Value) (en : Nat) (q : Addr × Obj) (h' : Heap) (tk' : Nat), (P → TkLt vs tk') → s.toks ≤ tk' → IntsAre vs (digs (2 ^ n) D a) → TOk qDig (some q) → Fr h₀ L h' m →
        News h₀ L h' ((l, listOf vs.toArray en) :: (TS 30 32 4 (some q) ++ news)) → (∀ p ∈ news, p.1 < l) → (st = some q ∨ ∀ p ∈ news, p.1 < q.1) → @LT.lt Nat _ 30 l → @Ne Nat q.1 l → Q (.ref l) { s with heap := h', toks := tk' }) := by
  unfold Ch
  w_top off
  k_fill
  intro dp un gd cn cs a9 ccd cl outer A₀ base h₀ L m s Q E hcA hcB B₀ F₀ X₀ N₀ T₀ hk hpre hd hu hret
  obtain ⟨ck, c2, c3, c4, c5⟩ := cs
  obtain rfl : ck = .function := hk
  obtain ⟨h1, h2, h3, h4, h5, h5', h6, h6', h7, hok⟩ := hpre
  obtain ⟨nws, hnws⟩ : ∃ x, x = TS 30 32 4 st ++ news := ⟨_, rfl⟩
  rw [← hnws] at N₀
  obtain ⟨hta, hret⟩ := hret
  refine wpAny_tk ?_
  refine wpAny_call ?_
  refine' enter_tk ?k1 ?k2 ?k3 ?k4 ?k5 ?kA ?kF ?kK ?k6 ?k7 ?k8 ?k9 ?kB ?kD ?_ ?c2 ?c3 ?c4; (case kA => exact rfl); (case kF => exact rfl); (case kK => exact rfl); (case k1 => k_asm); (case k2 => k_asm); (case k3 => k_asm); (case k4 => k_asm); (case k5 => k_asm); (case k6 => k_is); (case k7 => k_is); (case k8 => k_room); (case k9 => exact BindsTo.of_eq rfl); (case kB => exact rfl); (case kD => decide +kernel); (case c2 => exact rfl); (case c3 => exact rfl); (case c4 => exact rfl); k_whole; intro g1 L1 h1' tk1' cells1 hle1 FG1 F1 N1 Y1 B1 X1 T1 lAll; (try k_lt lAll); k_cells Y1; (try simp only [List.cons_append, List.nil_append] at N1); (try dsimp only); (try k_lift B1); (try k_fold)
  rename_i oI0 oD0 oN dI0 dD0 dN
  have hcA1 := hcA.keeps (Below.stays B1)
  have dN1 : oN.data = .cell (some (.int (n : Int) t2)) := dN
  have lAll' := lAll
  rw [hnws] at lAll'
  obtain ⟨l30, lq, lnews⟩ := ts_head lAll'
  iterate 8 walk1
  rename_i lz hz Fz Nz lzz
  iterate 14 walk1
  rw [h3]
  walk1
  rename_i DA h2' F2 N2 i1 n1 s1 e1 e2 e3 lDA
  walk1
  refine wpAny_gen ?_
  intro tk hle3
  rename_i h3' oD F3 N3 dD
  walk1
  k_dflt (refine' nestDef_K rfl rfl rfl ?_)
  rw [hnws] at N3
  have N3' := regA N3
  have hDA := lDA.2.2.2.1
  have hz3 : @LT.lt Nat _ (L1 + 1 + 1 + 1) lz := by omega
  have hzD : @LT.lt Nat _ lz DA := by omega
  obtain ⟨hA1, hA2, hA3, hA4, hA5⟩ := addr_a l30 hz3 hzD
  have hr30 : ∀ p ∈ (DA, listOf (List.replicate (D : Int).toNat [Value.int 0 tk1']).flatten.toArray 0) :: (lz, listOf #[Value.int 0 tk1'] 0) :: (L1 + 1 + 1 + 1, oI0) :: (L1 + 1 + 1, oD) :: (L1 + 1, oN) :: news, p.1 ≠ 30 := by
    intro p hp
    simp only [List.mem_cons] at hp
    rcases hp with rfl | rfl | rfl | rfl | rfl | hp
    · exact hA1
    · exact hA2
    · exact hA3
    · exact hA4
    · exact hA5
    · exact h7 p hp
  refine wpAny_tk ?_
  k_dflt (refine' def_any (st := st) F3 N3' T1 hcA1 rfl hr30 hok rfl ?_)
  intro f9 q9 ct9 dc9 h4' tk4 F4 N4 hq9 hlt1 hst hlt2 hlt3 hle4
  dsimp only at hle3 hle4
  obtain ⟨c9, oc9⟩ := q9
  dsimp only [TS, List.cons_append, List.nil_append] at N4 hlt3 hst
  have hf1 : @LT.lt Nat _ DA f9 := hlt1 _ (.head _)
  have hc1 : @LT.lt Nat _ c9 L1 ∨ @LT.lt Nat _ DA c9 := hst.imp (fun e => lq _ e) fun h => h _ (.head _)
  walk1
  rename_i hh5 oI F5 N5 dI
  obtain ⟨vs9, t9, dd1, dd2⟩ := id hq9
  obtain ⟨fO, nw, hfO, hnw, N6⟩ := regroup N5
  obtain ⟨hB1, hB2, hB3, hB4, hB5, hB6, hB7, hB8⟩ := addr_b l30 hz3 hzD hf1 hc1
  have hap : ∀ p ∈ (f9, fO) :: (c9, oc9) :: (L1 + 1 + 1 + 1, oI) :: (L1 + 1 + 1, oD) :: (L1 + 1, oN) :: nw, p.1 ≠ DA := by
    subst hnw
    intro p hp
    simp only [List.mem_cons] at hp
    rcases hp with rfl | rfl | rfl | rfl | rfl | rfl | rfl | hp
    · exact hB1
    · exact hB2
    · exact hB3
    · exact hB4
    · exact hB5
    · exact hB6
    · exact hB7
    · exact Nat.ne_of_lt (Nat.lt_trans (lnews p hp) hB8)
  have inner : ∀ (k : Nat) {x lo hi : Nat} {tx tl th : Tok} {vs : List Value} {ns : List Int} {en : Nat}, hi ≤ lo + k → lo < hi → hi ≤ ns.length → ns.length ≤ 1000 → x < 2 ^ 64 → x < (2 ^ n) ^ (hi - lo) → IntsAre vs ns →
      Ch w mean mg mb f9 ((DA, listOf vs.toArray en) :: (f9, fO) :: (c9, oc9) :: (L1 + 1 + 1 + 1, oI) :: (L1 + 1 + 1, oD) :: (L1 + 1, oN) :: nw) (k + 1) True [.int (x : Int) tx, .int (lo : Int) tl, .int (hi : Int) th]
        (fun h₀ L m s Q => (P → @LT.lt Nat _ 0 tx ∧ @LT.lt Nat _ tx s.toks ∧ TkLt vs s.toks) ∧ ∀ (vs' : List Value) (en' : Nat) (h' : Heap) (tk' : Nat), (P → TkLt vs' tk') → s.toks ≤ tk' → IntsAre vs' (put ns lo (digs (2 ^ n) (hi - lo) x)) → Fr h₀ L h' m →
          News h₀ L h' ((DA, listOf vs'.toArray en') :: (f9, fO) :: (c9, oc9) :: (L1 + 1 + 1 + 1, oI) :: (L1 + 1 + 1, oD) :: (L1 + 1, oN) :: nw) → Q .none { s with heap := h', toks := tk' }) := by
    clear hA1 hA2 hA3 hA4 hA5 hB1 hB2 hB3 hB4 hB5 hB6 hB7 hB8 hz3 hzD hta hret hle1 lAll lAll' l30 lq lnews lzz s1 e1 e2 e3 i1 lDA hDA hr30 hle3 hle4 h3 h4 h5 h5' h6 h6' h7 hlt1 hst hlt2 hlt3 hf1 hc1 hd hu N₀ hnws
    intro k
    induction k with
    | zero => intro x lo hi _ _ _ _ _ _ e1 e2; omega
    | succ k ih =>
      intro x lo hi tx tl th vs ns en q1 q2 q3 q6 q7 q4 q5
      unfold Ch
      intro dp un gd cn cs a9 ccd cl outer A₀ base h₀ L m s Q E hcA hcB B₀ F₀ X₀ N₀ T₀ hk _ hd hu hret2
      obtain ⟨ck, c2, c3, c4, c5⟩ := cs
      obtain rfl : ck = .function := hk
      subst hfO
      obtain ⟨htk, hret2⟩ := hret2
      refine wpAny_tk ?_
      refine wpAny_call ?_
      kn_enter
      clear N6 N5 F5 F₀ N₀ X1 FG1 T1 B1 hcA1
      have hle := q5.length
      by_cases hb : lo + 1 = hi
      · iterate 12 walk1
        rotate_left
        · exfalso; omega
        iterate 5 walk1
        k_dflt (refine' ksa_set (by k_asm) (by k_asm) (Upd.head hap) q5 (by omega) (by omega) (by omega) ?_)
        intro h8 F8 N8 hi8 _ _
        iterate 3 walk1
        rw [Int.toNat_natCast] at hi8
        rw [put_one ns lo (2 ^ n) x (by omega) (by rw [show hi - lo = 1 by omega] at q4; simpa using q4), show 1 = hi - lo by omega] at hi8
        intro hle9
        exact hret2 _ _ _ _ (fun hP => ((htk hP).2.2.le hle9).set (htk hP).1 (Nat.lt_of_lt_of_le (htk hP).2.1 hle9)) hle9 hi8 (by assumption) (by assumption)
      · obtain ⟨mi, sh, hm1, hm2, em, es, hp, hsh2, hk1, hk2, hmN, hmi2, hmi3⟩ := mid_facts q1 q2 hb q3 q6 h2
        iterate 12 walk1
        · exfalso; omega
        have hup : x / 2 ^ sh ≤ x := Nat.div_le_self _ _
        iterate 10 walk1
        rw [em]
        clear em
        iterate 10 walk1
        rw [es]
        clear es
        iterate 6 walk1
        refine PyProof.Rows.rshift_int (by omega) ?_
        rw [rsh_nat]
        iterate 8 walk1
        refine PyProof.Rows.lshift_int_small (by omega) (by omega) (by simp only [Int.natAbs_natCast]; omega) ?_
        rw [show ((x / 2 ^ sh : Nat) : Int) * 2 ^ ((sh : Int)).toNat = ((x / 2 ^ sh * 2 ^ sh : Nat) : Int) by simp]
        refine PyProof.Rows.xor_int ?_
        rw [xor_low]
        iterate 15 walk1
        have hpos : 0 < 2 ^ sh := Nat.two_pow_pos sh
        have hml : x % 2 ^ sh ≤ x := Nat.mod_le _ _
        k_dflt (refine' ih (lo := lo) (hi := mi) (x := x % 2 ^ sh) hk1 hm1 hmN q6 (Nat.lt_of_le_of_lt hml q7) (by rw [← hp]; exact Nat.mod_lt _ hpos) q5 hcA hcB (by k_asm) (by k_asm) (by k_asm) (by k_asm) (by k_asm) rfl trivial (by ktr_room) (by ktr_units) ⟨fun hP => ⟨?p1, ?p2, ?p3⟩, ?_⟩)
        case p1 => exact Nat.succ_pos _
        case p2 => (repeat (first | exact Nat.lt_succ_self _ | refine Nat.lt_succ_of_lt ?_))
        case p3 => exact (htk hP).2.2.le (by (repeat (first | exact Nat.le_refl _ | exact Nat.le_add_right _ _ | refine Nat.le_succ_of_le ?_)))
        intro vs2 en2 h2' tk2 tka tkb q8 F9 N9
        have hpl : (put ns lo (digs (2 ^ n) (mi - lo) (x % 2 ^ sh))).length = ns.length := put_len _ _ _ (by rw [digs_len]; exact hmi3)
        (try dsimp only)
        iterate 14 walk1
        k_dflt (refine' ih (lo := mi) (hi := hi) (x := x / 2 ^ sh) hk2 hm2 (hpl.symm ▸ q3) (hpl.symm ▸ q6) (Nat.lt_of_le_of_lt hup q7) (by
          rw [hp]; apply Nat.div_lt_of_lt_mul; rw [← Nat.pow_add, hmi2]; exact q4) q8 hcA hcB (by k_asm) (by k_asm) (by k_asm) (by k_asm) (by k_asm) rfl trivial (by ktr_room) (by ktr_units) ⟨fun hP => ⟨?p4, ?p5, ?p6⟩, ?_⟩)
        case p4 => exact Nat.succ_pos _
        case p5 => exact Nat.lt_of_lt_of_le (Nat.lt_of_lt_of_le (by (repeat (first | exact Nat.lt_succ_self _ | refine Nat.lt_succ_of_lt ?_))) tkb) (by (repeat (first | exact Nat.le_refl _ | exact Nat.le_add_right _ _ | refine Nat.le_succ_of_le ?_)))
        case p6 => exact (tka hP).le (by (repeat (first | exact Nat.le_refl _ | exact Nat.le_add_right _ _ | refine Nat.le_succ_of_le ?_)))
        intro vs3 en3 h3' tk3 tkc tkd q9 F10 N10
        have hpd := put_digs ns (2 ^ n) lo mi hi x hm1 hm2 q3
        rw [← hp] at hpd
        rw [hpd] at q9
        (try dsimp only)
        k_steps
        exact hret2 _ _ _ _ tkc (by assumption) q9 (by assumption) (by assumption)
  have hi0 : IntsAre (List.replicate (D : Int).toNat [Value.int 0 tk1']).flatten (List.replicate D 0) := by
    have e : (List.replicate (D : Int).toNat [(0 : Int)]).flatten = List.replicate D 0 := by simp
    rw [← e]; exact i1
  have lDn : ∀ p ∈ news, p.1 < DA := fun p hp => Nat.lt_trans (lnews p hp) (by omega)
  have hst' : st = some (c9, oc9) ∨ ∀ p ∈ news, p.1 < c9 := hst.imp id fun h p hp => h p (.tail _ (.tail _ (.tail _ (.tail _ (.tail _ hp)))))
  have l30D : @LT.lt Nat _ 30 DA := by omega
  have lcD : @Ne Nat c9 DA := by omega
  subst hfO
  by_cases ha : a = 0
  · have hD := h5' ha
    subst hD
    iterate 5 walk1
    walk1
    · exfalso; omega
    iterate 5 walk1
    rename News h₀ L _ _ => kN
    intro hle5
    refine hret DA _ 0 (c9, oc9) _ _ (fun _ _ hv => absurd hv List.not_mem_nil) hle5 hi0 hq9 (by assumption) (fun p hp => kN p ?_) lDn hst' l30D lcD
    subst hnw
    simp only [TS, List.cons_append, List.nil_append, List.mem_cons] at hp ⊢
    rcases hp with h | h | h | h <;> simp [h]
  · obtain rfl : n1 = D := by rw [← e1]; simp
    iterate 5 walk1
    walk1
    rotate_left
    · exfalso; omega
    iterate 20 walk1
    have hln : (List.replicate n1 (0 : Int)).length = n1 := by simp
    k_dflt (refine' inner n1 (x := a) (lo := 0) (hi := n1) (by omega) (h5 ha) (by omega) (by omega) h6 h6' hi0 hcA hcB (by k_asm) (by k_asm) (by k_asm) (by k_asm) (by k_asm) rfl trivial (by ktr_room) (by ktr_units) ⟨fun hP => ⟨(hta hP).1, ?pb, ?pc⟩, ?_⟩)
    case pb => have := (hta hP).2; dsimp only; omega
    case pc => have := hta hP; exact TkLt.rep (by omega) (by dsimp only; omega)
    intro vs2 en2 h2' tk2 tka tkb q8 F9 N9
    rw [Nat.sub_zero, put_all _ _ (by rw [digs_len, hln])] at q8
    (try dsimp only)
    iterate 5 walk1
    rename News h₀ L _ _ => kN
    intro hle5
    refine hret DA _ en2 (c9, oc9) _ _ tka hle5 q8 hq9 (by assumption) (fun p hp => kN p ?_) lDn hst' l30D lcD
    subst hnw
    simp only [TS, List.cons_append, List.nil_append, List.mem_cons] at hp ⊢
    rcases hp with h | h | h | h <;> simp [h]
theorem digits_spec {w : World} {mean : ExcName → Option Value} {mg mb : Str → Option Value} {a n D : Nat} {t1 t2 : Tok} {news : List (Addr × Obj)} {st : Option (Addr × Obj)} :
    Ch w mean mg mb 35 (TS 30 32 4 st ++ news) 100 (DigPre a n D news st) [.int (a : Int) t1, .int (n : Int) t2]
      (fun h₀ L m s Q => ∀ (l : Addr) (vs : List Value) (en : Nat) (q : Addr × Obj) (h' : Heap) (tk' : Nat), IntsAre vs (digs (2 ^ n) D a) → TOk qDig (some q) → Fr h₀ L h' m →
        News h₀ L h' ((l, listOf vs.toArray en) :: (TS 30 32 4 (some q) ++ news)) → (∀ p ∈ news, p.1 < l) → (st = some q ∨ ∀ p ∈ news, p.1 < q.1) → @LT.lt Nat _ 30 l → @Ne Nat q.1 l → Q (.ref l) { s with heap := h', toks := tk' }) := by
  intro dp un gd cn cs a ccd cl outer A₀ base h₀ L m s Q E a1 a2 a3 a4 a5 a6 a7 a8 a9 a10 a11 a12
  exact digits_gen (P := False) a1 a2 a3 a4 a5 a6 a7 a8 a9 a10 a11 ⟨fun h => h.elim, fun l vs en q h' tk' _ _ => a12 l vs en q h' tk'⟩
theorem digits_tk {w : World} {mean : ExcName → Option Value} {mg mb : Str → Option Value} {a n D : Nat} {t1 t2 : Tok} {news : List (Addr × Obj)} {st : Option (Addr × Obj)} :
    Ch w mean mg mb 35 (TS 30 32 4 st ++ news) 100 (DigPre a n D news st) [.int (a : Int) t1, .int (n : Int) t2]
      (fun h₀ L m s Q => (@LT.lt Nat _ 0 t1 ∧ @LT.lt Nat _ t1 s.toks) ∧ ∀ (l : Addr) (vs : List Value) (en : Nat) (q : Addr × Obj) (h' : Heap) (tk' : Nat), TkLt vs tk' → s.toks ≤ tk' → IntsAre vs (digs (2 ^ n) D a) → TOk qDig (some q) → Fr h₀ L h' m →
        News h₀ L h' ((l, listOf vs.toArray en) :: (TS 30 32 4 (some q) ++ news)) → (∀ p ∈ news, p.1 < l) → (st = some q ∨ ∀ p ∈ news, p.1 < q.1) → @LT.lt Nat _ 30 l → @Ne Nat q.1 l → Q (.ref l) { s with heap := h', toks := tk' }) := by
  intro dp un gd cn cs a ccd cl outer A₀ base h₀ L m s Q E a1 a2 a3 a4 a5 a6 a7 a8 a9 a10 a11 a12
  exact digits_gen (P := True) a1 a2 a3 a4 a5 a6 a7 a8 a9 a10 a11 ⟨fun _ => a12.1, fun l vs en q h' tk' h => a12.2 l vs en q h' tk' (h trivial)⟩
end
-- part T7
section
open PySem PySem.W PyProof.Rows
set_option Elab.async false
set_option maxRecDepth 100000
theorem regB {h₀ h : Heap} {L : Addr} {x1 x2 x3 : Addr × Obj} {T news : List (Addr × Obj)} (N : News h₀ L h (x1 :: x2 :: x3 :: (T ++ news))) : News h₀ L h (T ++ (x1 :: x2 :: x3 :: news)) := fun p hp => N p (by
  simp only [List.mem_cons, List.mem_append] at hp ⊢
  rcases hp with h | h | h | h | h <;> simp [h])
theorem hideFn {h₀ h : Heap} {L f : Addr} {fo : Obj} {rest : List (Addr × Obj)} (N : News h₀ L h ((f, fo) :: rest)) : ∃ fO, fO = fo ∧ News h₀ L h ((f, fO) :: rest) := ⟨_, rfl, N⟩
theorem map_getD (ds : List Nat) (i : Nat) : (ds.map (fun d : Nat => ((d : Nat) : Int))).getD i 0 = ((ds.getD i 0 : Nat) : Int) := by
  simp only [List.getD_eq_getElem?_getD, List.getElem?_map]
  cases ds[i]? <;> rfl
def qUnd : Str := Str.ofString "_digits2int" ++ ".<locals>." ++ Str.ofString "inner"
abbrev UndPre (ds : List Nat) (n : Nat) (news : List (Addr × Obj)) (lD : Addr) (vs : List Value) (st : Option (Addr × Obj)) : Prop :=
  1 ≤ n ∧ n ≤ 64 ∧ ds.length ≤ 64 ∧ (∀ d ∈ ds, d < 2 ^ n) ∧ (2 ^ n) ^ ds.length ≤ 2 ^ 64 ∧ IntsAre vs (ds.map (fun d : Nat => ((d : Nat) : Int))) ∧ (∀ p ∈ news, p.1 ≠ 37) ∧ lD ≠ 37 ∧ TOk qUnd st
set_option maxHeartbeats 8000000 in
theorem und_spec {w : World} {mean : ExcName → Option Value} {mg mb : Str → Option Value} {ds : List Nat} {n : Nat} {t2 : Tok} {lD : Addr} {vs : List Value} {en : Nat} {news : List (Addr × Obj)} {st : Option (Addr × Obj)} :
    Ch w mean mg mb 42 (TS 37 47 4 st ++ ((lD, listOf vs.toArray en) :: news)) 100 (UndPre ds n news lD vs st) [.ref lD, .int (n : Int) t2]
      (fun h₀ L m s Q => ∀ (t : Tok) (q : Addr × Obj) (h' : Heap) (tk' : Nat), TOk qUnd (some q) → Fr h₀ L h' m →
        News h₀ L h' (TS 37 47 4 (some q) ++ ((lD, listOf vs.toArray en) :: news)) → (st = some q ∨ ∀ p ∈ (lD, listOf vs.toArray en) :: news, p.1 < q.1) → Q (.int ((undigN (2 ^ n) ds : Nat) : Int) t) { s with heap := h', toks := tk' }) := by
  unfold Ch
  w_top off
  k_fill
  intro dp un gd cn cs a9 ccd cl outer A₀ base h₀ L m s Q E hcA hcB B₀ F₀ X₀ N₀ T₀ hk hpre hd hu hret
  obtain ⟨ck, c2, c3, c4, c5⟩ := cs
  obtain rfl : ck = .function := hk
  obtain ⟨h1, h2, h3, h4, h5, hi0, h7, h8, hok⟩ := hpre
  obtain ⟨nws, hnws⟩ : ∃ x, x = TS 37 47 4 st ++ ((lD, listOf vs.toArray en) :: news) := ⟨_, rfl⟩
  rw [← hnws] at N₀
  refine wpAny_call ?_
  k_enter
  rename_i g1 L1 h1' tk1' FG1 F1 B1 X1 T1 lAll oI0 oN oD dI0 dN dD N1
  have hcB1 := hcB.keeps (Below.stays B1)
  have dN1 : oN.data = .cell (some (.int (n : Int) t2)) := dN
  have dD1 : oD.data = .cell (some (.ref lD)) := dD
  have lAll' := lAll
  rw [hnws] at lAll'
  obtain ⟨l37, lq, lnews⟩ := ts_head lAll'
  walk1
  k_dflt (refine' nestDef_K rfl rfl rfl ?_)
  rw [hnws] at N1
  have N1' := regB N1
  have hr37 : ∀ p ∈ (L1 + 1 + 1 + 1, oI0) :: (L1 + 1 + 1, oN) :: (L1 + 1, oD) :: (lD, listOf vs.toArray en) :: news, p.1 ≠ 37 := by
    intro p hp
    simp only [List.mem_cons] at hp
    rcases hp with rfl | rfl | rfl | rfl | hp
    · exact (addr_c l37).1
    · exact (addr_c l37).2.1
    · exact (addr_c l37).2.2
    · exact h8
    · exact h7 p hp
  k_dflt (refine' def_any (st := st) F1 N1' T1 hcB1 rfl hr37 hok rfl ?_)
  intro f9 q9 ct9 dc9 h4' tk4 F4 N4 hq9 hlt1 hst hlt2 hlt3
  obtain ⟨c9, oc9⟩ := q9
  dsimp only [TS, List.cons_append, List.nil_append] at N4 hlt3 hst
  have hf1 : @LT.lt Nat _ (L1 + 1 + 1 + 1) f9 := hlt1 _ (.head _)
  have hc1 : @LT.lt Nat _ c9 L1 ∨ @LT.lt Nat _ (L1 + 1 + 1 + 1) c9 := hst.imp (fun e => lq _ e) fun h => h _ (.head _)
  walk1
  rename_i hh5 oI F5 N5 dI
  obtain ⟨vs9, t9, dd1, dd2⟩ := id hq9
  obtain ⟨fO, hfO, N6⟩ := hideFn N5
  have inner : ∀ (k : Nat) {lo hi : Nat} {tl th : Tok}, hi ≤ lo + k → lo < hi → hi ≤ ds.length →
      Ch w mean mg mb f9 ((f9, fO) :: (37, tabObj #[rawInt 47, rawInt 4, .ref c9]) :: (c9, oc9) :: (L1 + 1 + 1 + 1, oI) :: (L1 + 1 + 1, oN) :: (L1 + 1, oD) :: (lD, listOf vs.toArray en) :: news) (k + 1) True [.int (lo : Int) tl, .int (hi : Int) th]
        (fun h₀ L m s Q => Rt h₀ L m ((f9, fO) :: (37, tabObj #[rawInt 47, rawInt 4, .ref c9]) :: (c9, oc9) :: (L1 + 1 + 1 + 1, oI) :: (L1 + 1 + 1, oN) :: (L1 + 1, oD) :: (lD, listOf vs.toArray en) :: news) s Q (fun t => .int ((undigN (2 ^ n) (seg ds lo hi) : Nat) : Int) t)) := by
    clear hret lAll lAll' l37 lq lnews hr37 hlt1 hst hlt2 hlt3 hf1 hc1 hd hu
    intro k
    induction k with
    | zero => intro lo hi _ _ e1 e2; omega
    | succ k ih =>
      intro lo hi tl th q1 q2 q3
      unfold Ch Rt
      intro dp un gd cn cs a9 ccd cl outer A₀ base h₀ L m s Q E hcA hcB B₀ F₀ X₀ N₀ T₀ hk _ hd hu hret2
      obtain ⟨ck, c2, c3, c4, c5⟩ := cs
      obtain rfl : ck = .function := hk
      subst hfO
      refine wpAny_call ?_
      kn_enter
      clear N6 N5 F5 F₀ N₀ X1 FG1 T1 B1 hcB1
      have hle := hi0.length
      rw [List.length_map] at hle
      by_cases hb : lo + 1 = hi
      · iterate 10 walk1
        walk1
        rotate_left
        · exfalso; omega
        iterate 7 walk1
        rw [map_getD, Int.toNat_natCast]
        walk1
        have e := seg_one ds lo (by omega)
        rw [hb] at e
        rw [e, undigN, undigN, Nat.mul_zero, Nat.add_zero] at hret2
        exact hret2 _ _ _ (by assumption) (by assumption)
      · obtain ⟨mi, sh, hm1, hm2, em, es, hp, hsh2, hk1, hk2, hmN, hmi2, hmi3⟩ := mid_facts q1 q2 hb q3 (Nat.le_trans h3 (by decide)) h2
        have hbig : undigN (2 ^ n) (seg ds mi hi) < 2 ^ 64 := by
          refine Nat.lt_of_lt_of_le (undigN_lt _ _ fun d hd => h4 d (seg_mem _ _ _ _ hd)) (Nat.le_trans (Nat.pow_le_pow_right (Nat.two_pow_pos n) ?_) h5)
          rw [seg_len ds mi hi (by omega) q3]; omega
        iterate 10 walk1
        walk1
        · exfalso; omega
        iterate 11 walk1
        rw [em]
        clear em
        walk1
        iterate 9 walk1
        rw [es]
        clear es
        iterate 15 walk1
        k_dflt (refine' ih (lo := mi) (hi := hi) hk2 hm2 q3 hcA hcB (by k_asm) (by k_asm) (by k_asm) (by k_asm) (by k_asm) rfl trivial (by ktr_room) (by ktr_units) ?_)
        intro t7 h7' tk7 F7 N7
        (try dsimp only)
        walk1
        refine PyProof.Rows.lshift_int_small (by omega) (by omega) (by simp only [Int.natAbs_natCast]; omega) ?_
        rw [show ((undigN (2 ^ n) (seg ds mi hi) : Nat) : Int) * 2 ^ ((sh : Int)).toNat = ((undigN (2 ^ n) (seg ds mi hi) * 2 ^ sh : Nat) : Int) by simp]
        iterate 10 walk1
        k_dflt (refine' ih (lo := lo) (hi := mi) hk1 hm1 hmN hcA hcB (by k_asm) (by k_asm) (by k_asm) (by k_asm) (by k_asm) rfl trivial (by ktr_room) (by ktr_units) ?_)
        intro t8 h8' tk8 F8 N8
        (try dsimp only)
        walk1
        have eU : ((undigN (2 ^ n) (seg ds mi hi) * 2 ^ sh : Nat) : Int) + ((undigN (2 ^ n) (seg ds lo mi) : Nat) : Int) = ((undigN (2 ^ n) (seg ds lo hi) : Nat) : Int) := by
          rw [← und_seg (2 ^ n) ds lo mi hi (by omega) (by omega) q3, ← hp]; exact (Int.natCast_add _ _).symm
        rw [eU]
        walk1
        exact hret2 _ _ _ (by assumption) (by assumption)
  subst hfO
  have hlen := hi0.length
  rw [List.length_map] at hlen
  have hst' : st = some (c9, oc9) ∨ ∀ p ∈ (lD, listOf vs.toArray en) :: news, p.1 < c9 := hst.imp id fun h p hp => h p (.tail _ (.tail _ (.tail _ hp)))
  iterate 6 walk1
  rw [List.length_map]
  have fin : ∀ {h9 : Heap} {fo : Obj}, News h₀ L h9 ((f9, fo) :: (37, tabObj #[rawInt 47, rawInt 4, .ref c9]) :: (c9, oc9) :: (L1 + 1 + 1 + 1, oI) :: (L1 + 1 + 1, oN) :: (L1 + 1, oD) :: (lD, listOf vs.toArray en) :: news) →
      News h₀ L h9 (TS 37 47 4 (some (c9, oc9)) ++ ((lD, listOf vs.toArray en) :: news)) := fun kN p hp => kN p (by
    simp only [TS, List.cons_append, List.nil_append, List.mem_cons] at hp ⊢
    rcases hp with h | h | h | h <;> simp [h])
  by_cases hz : ds.length = 0
  · rw [if_neg (by rw [decide_eq_true_eq]; omega)]
    obtain rfl : ds = [] := List.length_eq_zero_iff.mp hz
    iterate 1 walk1
    walk1
    exact hret _ (c9, oc9) _ _ hq9 (by assumption) (fin (by assumption)) hst'
  · rw [if_pos (by rw [decide_eq_true_eq]; omega)]
    iterate 16 walk1
    rw [List.length_map]
    k_dflt (refine' inner ds.length (lo := 0) (hi := ds.length) (by omega) (by omega) (Nat.le_refl _) hcA hcB (by k_asm) (by k_asm) (by k_asm) (by k_asm) (by k_asm) rfl trivial (by ktr_room) (by ktr_units) ?_)
    intro t8 h8' tk8 F8 N8
    rw [seg_all]
    (try dsimp only)
    walk1
    exact hret _ (c9, oc9) _ _ hq9 (by assumption) (fin (by assumption)) hst'
end
-- part R2
section
open PySem PySem.W PyProof.Rows
set_option Elab.async false
set_option maxRecDepth 100000
section
variable {prog : Program} {w : World} {A : Around} {E : Value → Shared → Prop} {s : Shared} {env : Env} {h₀ : Heap} {x : Str} {body : List Stmt} {Q : Flow → Shared → Prop}
def RevTurn {σ : Type} (h₀ : Heap) (L I : Addr) (it : Obj) (Led : σ → List (Addr × Obj)) (ps : σ → List (Str × Value)) (x : Str) (stored : List Str) (m₀ : Str → Option Value) (P : σ → Prop) (s₁ : Shared) (f : Flow) (s₂ : Shared) : Prop :=
  f = .next ∧ ∃ (c : σ) (h' : Heap) (tk : Nat) (m' : Str → Option Value) (news' : List (Addr × Obj)), s₂ = { s₁ with heap := h', toks := tk } ∧ Fr h₀ L h' m' ∧ News h₀ L h' news' ∧ (I, it) ∈ news' ∧ (∀ p ∈ Led c, p ∈ news') ∧ (∀ p ∈ Led c, p.1 ≠ I) ∧
    (∀ p ∈ ps c, m' p.1 = some p.2) ∧ (∀ z, z ≠ x → (∀ p ∈ ps c, z ≠ p.1) → stored.contains z = false → m' z = m₀ z) ∧ P c
theorem rev_inv {σ : Type} {I : Addr} {lp : Addr × Obj} {m₀ : Str → Option Value} (Led : σ → List (Addr × Obj)) (ps : σ → List (Str × Value)) (stored : List Str) (P : List Int → σ → Prop) (all : List Int)
    (hlp : ∀ c, lp ∈ Led c)
    (turn : ∀ (c : σ) (pre post : List Int) (n : Int) (t : Tok) (u : Str → Option Value) (it : Obj) (h : Heap) (tk : Nat), all = pre ++ n :: post → P pre c →
      Fr h₀ env.locals h (fun y => if y = x then some (.int n t) else kstB (fun z => if stored.contains z then u z else m₀ z) (ps c) y) → News h₀ env.locals h ((I, it) :: Led c) →
      wpAny (model prog w) A (execs body env) (RevTurn h₀ env.locals I it Led ps x stored m₀ (P (pre ++ [n])) { s with heap := h, toks := tk }) E { s with heap := h, toks := tk })
    (done : ∀ (c : σ) (u : Str → Option Value) (h : Heap) (tk : Nat), P all c → Fr h₀ env.locals h (fun y => if y = x then u y else kstB (fun z => if stored.contains z then u z else m₀ z) (ps c) y) → News h₀ env.locals h (Led c) → Q .next { s with heap := h, toks := tk }) :
    ∀ (r : List Value) (pre ns : List Int) (c : σ) (m : Str → Option Value), IntsAre r ns → all = pre ++ ns → P pre c → (∀ p ∈ ps c, m p.1 = some p.2) → (∀ z, z ≠ x → (∀ p ∈ ps c, z ≠ p.1) → stored.contains z = false → m z = m₀ z) →
      RevRest prog w A E h₀ env x body Q s I lp r m (Led c) := by
  intro r
  induction r with
  | nil =>
    intro pre ns c m hi he hp h1 h2
    cases hi
    rw [List.append_nil] at he
    subst he
    exact RevRest.zero fun h tk F N => done c m h tk hp (kst_frOut h1 h2 F) N
  | cons v r ih =>
    intro pre ns c m hi he hp h1 h2
    cases hi with
    | cons n t hi' =>
      rename_i ns'
      refine RevRest.succ fun it h tk hit F N => ?_
      refine wpAny_mono (turn c pre ns' n t m it h tk he hp (kst_fr h1 h2 F) N) (fun f s₂ q => ?_) fun _ _ e => e
      obtain ⟨rfl, c', h', tk', m', news', rfl, F', N', hm, hl, hI, k1, k2, hp'⟩ := q
      refine UnrEnd.intro F' N' (Led c') (fun p hp => ?_) hI ⟨hlp c', ih (pre ++ [n]) ns' c' m' hi' (by rw [he]; simp) hp' k1 k2⟩
      rcases List.mem_cons.mp hp with rfl | hp
      · exact hm
      · exact hl p hp
end
end
-- part T8
section
open PySem PySem.W PyProof.Rows
set_option Elab.async false
set_option maxRecDepth 100000
theorem offI_of {I : Addr} {it : Obj} {l : List (Addr × Obj)} (h : ∀ p ∈ l, p.1 ≠ I) : OffI I it l := by
  induction l with
  | nil => trivial
  | cons a l ih => exact ⟨.inl (h a (.head _)), ih fun p hp => h p (.tail _ hp)⟩
def divInv (B b : Nat) (all : List Nat) (pre : List Int) (qs : List Nat) (vq : List Value) (R : Int) : Prop :=
  ∃ ds : List Nat, pre = nats ds ∧ IntsAre vq (nats qs) ∧ R = ((hornN B ds % b : Nat) : Int) ∧ hornN B qs = hornN B ds / b ∧ (∀ q ∈ qs, q < B) ∧ qs.length = ds.length
theorem RevTurn.mk {σ : Type} {h₀ : Heap} {L I : Addr} {it : Obj} {Led : σ → List (Addr × Obj)} {ps : σ → List (Str × Value)} {x : Str} {stored : List Str} {m₀ : Str → Option Value} {P : σ → Prop} {s₁ : Shared} (c : σ) {h' : Heap} {tk : Nat} {m' : Str → Option Value} {news' : List (Addr × Obj)}
    (F : Fr h₀ L h' m') (N : News h₀ L h' news') (a : (I, it) ∈ news') (b : ∀ p ∈ Led c, p ∈ news') (d : ∀ p ∈ Led c, p.1 ≠ I)
    (e : ∀ p ∈ ps c, m' p.1 = some p.2) (g : ∀ z, z ≠ x → (∀ p ∈ ps c, z ≠ p.1) → stored.contains z = false → m' z = m₀ z) (i : P c) : RevTurn h₀ L I it Led ps x stored m₀ P s₁ .next { s₁ with heap := h', toks := tk } :=
  ⟨rfl, c, h', tk, m', news', rfl, F, N, a, b, d, e, g, i⟩
theorem bits_le {x k : Nat} (h : x < 2 ^ k) : Builtin.Int.intBits (x : Int) ≤ k := by
  unfold Builtin.Int.intBits
  by_cases h0 : ((x : Int) == 0) = true
  · rw [if_pos h0]; omega
  · rw [if_neg h0, Int.natAbs_natCast]
    have hx : x ≠ 0 := by intro e; subst e; exact h0 rfl
    have := (Nat.log2_lt hx).mpr h
    omega
theorem regC {h₀ h : Heap} {L : Addr} {x1 x2 : Addr × Obj} {T1 T2 news : List (Addr × Obj)} (N : News h₀ L h (x1 :: x2 :: (T1 ++ (T2 ++ news)))) : News h₀ L h (T2 ++ (x1 :: x2 :: (T1 ++ news))) := fun p hp => N p (by
  simp only [List.mem_cons, List.mem_append] at hp ⊢
  rcases hp with h | h | h | h | h <;> simp [h])
theorem regD {h₀ h : Heap} {L : Addr} {x0 x1 x2 : Addr × Obj} {T1 T2 news : List (Addr × Obj)} (N : News h₀ L h (x0 :: (T2 ++ (x1 :: x2 :: (T1 ++ news))))) : News h₀ L h (x0 :: (T1 ++ (T2 ++ news))) := fun p hp => N p (by
  simp only [List.mem_cons, List.mem_append] at hp ⊢
  rcases hp with h | h | h | h <;> simp [h])
abbrev DivPre (a b n D : Nat) (news : List (Addr × Obj)) (st1 st2 : Option (Addr × Obj)) : Prop :=
  1 ≤ b ∧ Builtin.Int.intBits (b : Int) = n ∧ b < 2 ^ n ∧ 1 ≤ n ∧ n ≤ 16 ∧ (Builtin.Int.intBits (a : Int) ≤ 32) ∧
  DigPre a n D (TS 37 47 4 st2 ++ news) st1 ∧ (∀ p ∈ news, p.1 ≠ 37) ∧ TOk qUnd st2 ∧ (2 ^ n) ^ D ≤ 2 ^ 64 ∧ (∀ q, st1 = some q → q.1 ≠ 37)
abbrev tupOf (vs : List Value) : Obj := { cls := .type "tuple", data := .seq vs.toArray }
set_option maxHeartbeats 8000000 in
theorem divpos_spec {w : World} {mean : ExcName → Option Value} {mg mb : Str → Option Value} {a b n D : Nat} {t1 t2 : Tok} {news : List (Addr × Obj)} {st1 st2 : Option (Addr × Obj)} :
    Ch w mean mg mb 49 (TS 30 32 4 st1 ++ (TS 37 47 4 st2 ++ news)) 105 (DivPre a b n D news st1 st2) [.int (a : Int) t1, .int (b : Int) t2]
      (fun h₀ L m s Q => ∀ (l : Addr) (u1 u2 : Tok) (q1 q2 : Addr × Obj) (h' : Heap) (tk' : Nat), TOk qDig (some q1) → TOk qUnd (some q2) → Fr h₀ L h' m →
        News h₀ L h' ((l, tupOf [.int ((a / b : Nat) : Int) u1, .int ((a % b : Nat) : Int) u2]) :: (TS 30 32 4 (some q1) ++ (TS 37 47 4 (some q2) ++ news))) → (∀ p ∈ TS 30 32 4 (some q1) ++ (TS 37 47 4 (some q2) ++ news), p.1 < l) → q1.1 ≠ 37 → q2.1 ≠ 30 →
        (st1 = some q1 ∨ ∀ p ∈ news, p.1 < q1.1) → (st2 = some q2 ∨ ∀ p ∈ news, p.1 < q2.1) → Q (.ref l) { s with heap := h', toks := tk' }) := by
  unfold Ch
  w_top off
  k_fill
  intro dp un gd cn cs a9 ccd cl outer A₀ base h₀ L m s Q E hcA hcB B₀ F₀ X₀ N₀ T₀ hk hpre hd hu hret
  obtain ⟨ck, c2, c3, c4, c5⟩ := cs
  obtain rfl : ck = .function := hk
  obtain ⟨h1, h2, h3, h4, h5, h6, hdp, h7, hok2, h8, h9⟩ := hpre
  refine wpAny_call ?_
  k_enter
  iterate 8 (first | walk1 | (dsimp only; walk1))
  rw [h2]
  iterate 12 (first | walk1 | (dsimp only; walk1))
  k_dflt (refine' digits_spec (st := st1) (D := D) hcA hcB (by k_asm) (by k_asm) (by k_asm) (by k_asm) (by k_asm) rfl hdp (by ktr_room) (by ktr_units) ?_)
  intro lA vsA enA q1 h2' tk2 hiA hq1 F2 N2 lA1 hst1 lA30 hqA
  (try dsimp only)
  iterate 10 (first | walk1 | (dsimp only; walk1))
  walk1
  rename_i lq hq' Fq Nq lqq
  have lq1 : ∀ p ∈ TS 30 32 4 (some q1) ++ (TS 37 47 4 st2 ++ news), p.1 < lq := by first | exact allLt_all lqq.2 | exact fun p hp => lqq p (.tail _ hp)
  iterate 11 (first | walk1 | (dsimp only; walk1))
  rename_i I hI' FI NI lI
  have hoffI : ∀ p ∈ (lq, listOf #[] 0) :: (lA, listOf vsA.toArray enA) :: (TS 30 32 4 (some q1) ++ (TS 37 47 4 st2 ++ news)), p.1 ≠ I := by
    intro p hp
    rcases List.mem_cons.mp hp with rfl | hp
    · show lq ≠ I; refine neN ?_; omega
    · rcases List.mem_cons.mp hp with rfl | hp
      · show lA ≠ I; refine neN ?_; omega
      · exact Nat.ne_of_lt (Nat.lt_trans (lq1 p hp) lI.1)
  with_unfolding_all refine iter_revUnr (lo := listOf vsA.toArray enA) (vs := vsA) (by rfl) FI NI (offI_of hoffI) (.tail _ (.head _)) (by rfl) (by rfl) ?_
  obtain ⟨_, _, hD, hD64, _, _, _, haD, h30, _⟩ := hdp
  obtain ⟨ds, hds⟩ : ∃ ds, ds = (digN (2 ^ n) D a).reverse := ⟨_, rfl⟩
  have hall : (digs (2 ^ n) D a).reverse = nats ds := by rw [hds, ← nats_rev, digN_map]; rfl
  have hiR : IntsAre vsA.reverse (nats ds) := by rw [← hall]; exact PyProof.Rows.IntsAre.reverse hiA
  with_unfolding_all refine' rev_inv (σ := List Nat × List Value × Nat × Int × Nat) (fun c => (lq, listOf c.2.1.toArray c.2.2.1) :: (lA, listOf vsA.toArray enA) :: (TS 30 32 4 (some q1) ++ (TS 37 47 4 st2 ++ news))) (fun c => [(Str.ofString "r", .int c.2.2.2.1 c.2.2.2.2)]) [Str.ofString "q_digit"] (fun pre c => divInv (2 ^ n) b ds pre c.1 c.2.1 c.2.2.2.1) (nats ds) (fun _ => .tail _ (.head _)) ?turn ?done vsA.reverse [] (nats ds) ([], [], 0, 0, _) _ hiR rfl ?pp ?kk ?hr
  case pp => exact ⟨[], rfl, .nil, by simp [hornN], by simp [hornN], by simp, rfl⟩
  case kk => kst_all
  case hr => exact fun _ _ _ _ => rfl
  case turn =>
    rintro ⟨qs, vq, eq, R, rt⟩ pre post nn t u it h tk9 hsp hinv F9 N9
    clear NI FI
    dsimp only [kstB] at hinv F9 N9
    obtain ⟨dd, rfl, hiq, rfl, hqv, hqb, hql⟩ := hinv
    obtain ⟨d, hd, rfl⟩ := nats_mem (ds := ds) (n := nn) (by rw [hsp]; simp)
    (try k_fold)
    have hr1 : hornN (2 ^ n) dd % b < b := Nat.mod_lt _ h1
    have hd1 : d < 2 ^ n := by rw [hds] at hd; exact digN_lt _ _ _ _ (Nat.two_pow_pos n) (List.mem_reverse.mp hd)
    have hn16 : 2 ^ n ≤ 2 ^ 16 := Nat.pow_le_pow_right (by decide) h5
    have hX32 : hornN (2 ^ n) dd % b * 2 ^ n + d < 2 ^ 32 := by
      have : (hornN (2 ^ n) dd % b + 1) * 2 ^ n ≤ 2 ^ 16 * 2 ^ 16 := Nat.mul_le_mul (by omega) hn16
      rw [Nat.add_mul] at this
      omega
    iterate 10 (first | walk1 | (dsimp only; walk1))
    refine PyProof.Rows.lshift_int_small (by omega) (by omega) (by simp only [Int.natAbs_natCast]; omega) ?_
    rw [show ((hornN (2 ^ n) dd % b : Nat) : Int) * 2 ^ ((n : Int)).toNat = ((hornN (2 ^ n) dd % b * 2 ^ n : Nat) : Int) by simp]
    iterate 1 (first | walk1 | (dsimp only; walk1))
    walk1
    rw [show ((hornN (2 ^ n) dd % b * 2 ^ n : Nat) : Int) + (d : Int) = ((hornN (2 ^ n) dd % b * 2 ^ n + d : Nat) : Int) from (Int.natCast_add _ _).symm]
    obtain ⟨X, hX⟩ : ∃ X, X = hornN (2 ^ n) dd % b * 2 ^ n + d := ⟨_, rfl⟩
    rw [← hX] at hX32 ⊢
    have hXb := bits_le hX32
    iterate 22 (first | walk1 | (dsimp only; walk1))
    walk1
    iterate 31 (first | walk1 | (dsimp only; walk1))
    rename_i Fz Nz
    have hapq : ∀ p ∈ (lA, listOf vsA.toArray enA) :: (TS 30 32 4 (some q1) ++ (TS 37 47 4 st2 ++ news)), p.1 ≠ lq := by
      intro p hp
      rcases List.mem_cons.mp hp with rfl | hp
      · show lA ≠ lq; refine neN ?_; have := lqq.1; omega
      · exact Nat.ne_of_lt (lq1 p hp)
    have hIq : I ≠ lq := by refine neN ?_; have := lI.1; omega
    have hvl : vq.length ≤ 64 := by
      have e1 := hiq.length
      have e2 : ds.length = D := by rw [hds, List.length_reverse, digN_len]
      have e3 : (nats ds).length = (nats dd).length + (post.length + 1) := by rw [hsp]; simp
      simp only [nats, List.length_map] at e1 e3
      omega
    k_dflt (refine' append_K Fz (fun p hp => Nz p (List.Mem.tail _ hp)) (Upd.tail hIq (Upd.head hapq)) ?_ (by rw [List.size_toArray, sizeLine_eq]; omega))
    intro hz Fy Ny
    rw [List.push_toArray] at Ny
    iterate 2 (first | walk1 | (dsimp only; walk1))
    have efd : (X : Int).fdiv (b : Int) = ((X / b : Nat) : Int) := by rw [Int.fdiv_eq_ediv_of_nonneg _ (Int.natCast_nonneg b)]; simp
    have efm : (X : Int).fmod (b : Int) = ((X % b : Nat) : Int) := by rw [Int.fmod_eq_emod_of_nonneg _ (Int.natCast_nonneg b)]; simp
    refine' RevTurn.mk (Led := fun c : List Nat × List Value × Nat × Int × Nat => (lq, listOf c.2.1.toArray c.2.2.1) :: (lA, listOf vsA.toArray enA) :: (TS 30 32 4 (some q1) ++ (TS 37 47 4 st2 ++ news))) (qs ++ [X / b], vq ++ [_], eq + 1, (X : Int).fmod (b : Int), _) Fy Ny (.head _) (fun p hp => .tail _ hp) ?lo ?p1 ?p2 ?p3
    case lo =>
      intro p hp
      rcases List.mem_cons.mp hp with rfl | hp
      · exact Ne.symm hIq
      · exact hoffI p (.tail _ hp)
    case p1 => kst_all
    case p2 => kst_same
    case p3 =>
      refine ⟨dd ++ [d], by rw [nats_snoc], ?_, ?_, ?_, ?_, ?_⟩
      · rw [nats_snoc]
        refine PyProof.Rows.IntsAre.append hiq ?_
        rw [efd]
        exact .cons _ _ .nil
      · rw [efm, horn_snoc, horn_mod, ← hX]
      · rw [horn_snoc, horn_snoc, horn_div _ _ _ _ h1, ← hX, hqv]
      · intro q hq
        rcases List.mem_append.mp hq with hq | hq
        · exact hqb q hq
        · rw [List.mem_singleton.mp hq, hX]; exact q_lt _ _ _ _ hr1 hd1
      · simp [hql]
  case done =>
    rintro ⟨qs, vq, eq, R, rt⟩ u h tk9 hinv F9 N9
    clear NI FI
    dsimp only [kstB] at hinv F9 N9
    obtain ⟨dd, hdd, hiq, rfl, hqv, hqb, hql⟩ := hinv
    obtain rfl := nats_inj hdd
    have hlq := hiq.length
    have hqlen : qs.length ≤ 64 := by rw [hql, hds, List.length_reverse, digN_len]; exact hD64
    have hapq : ∀ p ∈ (lA, listOf vsA.toArray enA) :: (TS 30 32 4 (some q1) ++ (TS 37 47 4 st2 ++ news)), p.1 ≠ lq := by
      intro p hp
      rcases List.mem_cons.mp hp with rfl | hp
      · show lA ≠ lq; refine neN ?_; omega
      · exact Nat.ne_of_lt (lq1 p hp)
    (try k_fold)
    iterate 6 walk1
    k_dflt (refine' kl_reverse (its := vq.toArray) (l := vq.reverse) (by k_asm) (by k_asm) (by simp) (Upd.head hapq) (by rw [List.toList_toArray, hlq, nats, List.length_map, sizeLine_eq]; omega) ?_)
    intro h8' F8 N8
    iterate 11 (first | walk1 | (dsimp only; walk1))
    have N8' := regC N8
    have l37A : @LT.lt Nat _ 37 lA := by
      cases st2 with
      | none => exact lA1 _ (.head _)
      | some q => exact lA1 _ (.head _)
    have hq37 : q1.1 ≠ 37 := by
      rcases hst1 with e | e
      · exact h9 q1 e
      · have h37 : @LT.lt Nat _ 37 q1.1 := by
          cases st2 with
          | none => exact e _ (.head _)
          | some q => exact e _ (.head _)
        exact Nat.ne_of_gt h37
    have hn37 : ∀ p ∈ (lA, listOf vsA.toArray enA) :: (TS 30 32 4 (some q1) ++ news), p.1 ≠ 37 := by
      intro p hp
      simp only [TS, List.cons_append, List.nil_append, List.mem_cons] at hp
      rcases hp with rfl | rfl | rfl | hp
      · exact Nat.ne_of_gt l37A
      · show 30 ≠ 37; exact neN (by decide)
      · exact hq37
      · exact h7 p hp
    have hlt := lqq
    have hlA := lqq.1
    have hpow : (2 ^ n) ^ qs.reverse.length ≤ 2 ^ 64 := by rw [List.length_reverse, hql, hds, List.length_reverse, digN_len]; exact h8
    k_dflt (refine' und_spec (st := st2) (ds := qs.reverse) (vs := vq.reverse) (en := eq) hcA hcB (by k_asm) (by k_asm) (by k_asm) N8' (by k_asm) rfl ⟨h4, by omega, by rw [List.length_reverse]; exact hqlen, fun d hd => hqb d (List.mem_reverse.mp hd), hpow, by
      have hrv := PyProof.Rows.IntsAre.reverse hiq
      rw [nats_rev] at hrv; exact hrv, hn37, by refine neN ?_; omega, hok2⟩ (by ktr_room) (by ktr_units) ?_)
    intro t8 q2 h9' tk8 hq2 F9' N9' hst2
    rw [und_rev, hqv]
    have hdd2 : hornN (2 ^ n) ds = a := by rw [hds, ← und_rev, List.reverse_reverse, digN_und _ _ _ haD]
    rw [hdd2]
    (try dsimp only)
    iterate 11 (first | walk1 | (dsimp only; walk1))
    rename_i DT kk kF kN kl
    walk1
    rename_i kF2 kN2 Tc2 kX2
    have lD : ∀ p ∈ TS 30 32 4 (some q1) ++ (TS 37 47 4 (some q2) ++ news), p.1 < DT := by
      intro p hp
      refine kl p ?_
      simp only [List.mem_append, List.mem_cons] at hp ⊢
      rcases hp with h | h | h <;> simp [h]
    have hq30 : q2.1 ≠ 30 := by
      rcases hst2 with e | e
      · rw [e] at h30
        exact h30 q2 (.tail _ (.head _))
      · have e2 : @LT.lt Nat _ lA q2.1 := e _ (.tail _ (.head _))
        refine neN ?_
        omega
    rw [hdd2] at kN2
    refine hret DT _ _ q1 q2 _ _ hq1 hq2 (by assumption) (regD kN2) lD hq37 hq30 ?_ ?_
    · exact hst1.imp id fun e p hp => e p (List.mem_append_right _ hp)
    · exact hst2.imp id fun e p hp => e p (.tail _ (.tail _ (List.mem_append_right _ hp)))
end
-- part P9
section
open PySem PySem.W PyProof.Rows
set_option Elab.async false
set_option maxRecDepth 100000
theorem lt_bits (x : Nat) : x < 2 ^ Builtin.Int.intBits (x : Int) := by
  unfold Builtin.Int.intBits
  by_cases h0 : ((x : Int) == 0) = true
  · rw [if_pos h0]; have : x = 0 := by simpa using h0
    omega
  · rw [if_neg h0, Int.natAbs_natCast]
    have hx : x ≠ 0 := by intro e; subst e; exact h0 rfl
    exact (Nat.log2_lt hx).mp (Nat.lt_succ_self _)
theorem bits_zero : Builtin.Int.intBits ((0 : Nat) : Int) = 0 := by rfl
theorem bits_pos {x : Nat} (h : x ≠ 0) : 1 ≤ Builtin.Int.intBits (x : Int) := by
  have := lt_bits x
  rcases Nat.eq_zero_or_pos (Builtin.Int.intBits (x : Int)) with e | e
  · rw [e] at this; omega
  · exact e
def digD (a n : Nat) : Nat := (Builtin.Int.intBits (a : Int) + n - 1) / n
theorem digPre_at {a n : Nat} {news : List (Addr × Obj)} {st : Option (Addr × Obj)} (h1 : 1 ≤ n) (h2 : n ≤ 16) (ha : a < 2 ^ 32) (n30 : ∀ p ∈ news, p.1 ≠ 30) (k1 : TOk qDig st) : DigPre a n (digD a n) news st := by
  unfold digD
  obtain ⟨A, hA⟩ : ∃ A, A = Builtin.Int.intBits (a : Int) := ⟨_, rfl⟩
  rw [← hA]
  have hA2 : A ≤ 32 := hA ▸ bits_le ha
  have haA : a < 2 ^ A := hA ▸ lt_bits a
  have hdn : (A + n - 1) / n * n ≤ A + n - 1 := Nat.div_mul_le_self _ _
  have hD : (A + n - 1) / n ≤ 47 := by
    have : (A + n - 1) / n * 1 ≤ (A + n - 1) / n * n := Nat.mul_le_mul_left _ h1
    omega
  have hAn : A ≤ n * ((A + n - 1) / n) := by
    have h := Nat.lt_mul_div_succ (A + n - 1) (show 0 < n by omega)
    rw [Nat.mul_add] at h
    omega
  refine ⟨h1, by omega, ?_, by omega, ?_, ?_, by omega, ?_, n30, k1⟩
  · rw [← hA, show ((A : Int) + (n : Int) - 1) = ((A + n - 1 : Nat) : Int) by omega, Int.fdiv_eq_ediv_of_nonneg _ (Int.natCast_nonneg n)]
    simp
  · intro h0
    have : 1 ≤ A := hA ▸ bits_pos h0
    exact Nat.div_pos (by omega) (by omega)
  · intro h0
    subst h0
    rw [bits_zero] at hA
    subst hA
    exact Nat.div_eq_of_lt (by omega)
  · rw [← Nat.pow_mul]
    exact Nat.lt_of_lt_of_le haA (Nat.pow_le_pow_right (by decide) hAn)
theorem digD_pow (a n : Nat) (h2 : n ≤ 16) (ha : a < 2 ^ 32) : (2 ^ n) ^ digD a n ≤ 2 ^ 64 := by
  have hA2 : Builtin.Int.intBits (a : Int) ≤ 32 := bits_le ha
  have hdn : digD a n * n ≤ Builtin.Int.intBits (a : Int) + n - 1 := Nat.div_mul_le_self _ _
  rw [← Nat.pow_mul, Nat.mul_comm]
  exact Nat.pow_le_pow_right (by decide) (by omega)
theorem divPre_of {a b : Nat} {news : List (Addr × Obj)} {st1 st2 : Option (Addr × Obj)} (hb : 1 ≤ b) (hb2 : b < 2 ^ 16) (ha : a < 2 ^ 32) (n30 : ∀ p ∈ news, p.1 ≠ 30) (n37 : ∀ p ∈ news, p.1 ≠ 37)
    (k1 : TOk qDig st1) (k2 : TOk qUnd st2) (x1 : ∀ q, st1 = some q → q.1 ≠ 37) (x2 : ∀ q, st2 = some q → q.1 ≠ 30) : ∃ n D, DivPre a b n D news st1 st2 := by
  have hn1 : 1 ≤ Builtin.Int.intBits (b : Int) := bits_pos (by omega)
  have hn2 : Builtin.Int.intBits (b : Int) ≤ 16 := bits_le hb2
  refine ⟨_, _, hb, rfl, lt_bits b, hn1, hn2, bits_le ha, digPre_at hn1 hn2 ha ?_ k1, n37, k2, digD_pow a _ hn2 ha, x1⟩
  intro p hp
  rcases List.mem_append.mp hp with hp | hp
  · cases st2 with
    | none => rcases List.mem_cons.mp hp with rfl | hp
              · exact neN (by decide)
              · exact absurd hp List.not_mem_nil
    | some q => rcases List.mem_cons.mp hp with rfl | hp
                · show (37 : Addr) ≠ 30; exact neN (by decide)
                · rcases List.mem_cons.mp hp with rfl | hp
                  · exact x2 _ rfl
                  · exact absurd hp List.not_mem_nil
  · exact n30 p hp
theorem fdiv_nat (a b : Nat) : ((a : Nat) : Int).fdiv (b : Int) = ((a / b : Nat) : Int) := by rw [Int.fdiv_eq_ediv_of_nonneg _ (Int.natCast_nonneg b)]; simp
theorem fmod_nat (a b : Nat) : ((a : Nat) : Int).fmod (b : Int) = ((a % b : Nat) : Int) := by rw [Int.fmod_eq_emod_of_nonneg _ (Int.natCast_nonneg b)]; simp
theorem fdiv_low (x b : Nat) (hb : 1 ≤ b) : (-((x : Int) + 1)).fdiv (b : Int) = -((x / b : Nat) : Int) - 1 := by
  obtain ⟨c, rfl⟩ : ∃ c, b = c + 1 := ⟨b - 1, by omega⟩
  have : (Int.negSucc x).fdiv (Int.ofNat (c + 1)) = Int.negSucc (x / (c + 1)) := rfl
  rw [show -((x : Int) + 1) = Int.negSucc x by omega]
  rw [show ((c + 1 : Nat) : Int) = Int.ofNat (c + 1) from rfl, this]
  omega
theorem fmod_low (x b : Nat) (hb : 1 ≤ b) : (-((x : Int) + 1)).fmod (b : Int) = (b : Int) + (-((x % b : Nat) : Int) - 1) := by
  have : (Int.negSucc x).fmod (Int.ofNat b) = Int.subNatNat b (x % b + 1) := rfl
  rw [show -((x : Int) + 1) = Int.negSucc x by omega]
  rw [show ((b : Nat) : Int) = Int.ofNat b from rfl, this]
  rw [Int.subNatNat_eq_coe]
  simp only [Int.ofNat_eq_natCast]
  omega
theorem fdiv_nn (a b : Int) : (-a).fdiv (-b) = a.fdiv b := Int.neg_fdiv_neg a b
theorem fmod_nn (a b : Int) : -((-a).fmod (-b)) = a.fmod b := by rw [Int.neg_fmod_neg]; omega
end
-- part T9
section
open PySem PySem.W PyProof.Rows
set_option Elab.async false
set_option maxRecDepth 100000
theorem Ch.mono {w : World} {mean : ExcName → Option Value} {mg mb : Str → Option Value} {f : Addr} {news : List (Addr × Obj)} {D D' : Nat} {pre pre' : Prop} {vs : List Value} {K : Heap → Addr → (Str → Option Value) → Shared → (Value → Shared → Prop) → Prop}
    (c : Ch w mean mg mb f news D pre vs K) (hD : D ≤ D') (hp : pre' → pre) : Ch w mean mg mb f news D' pre' vs K := by
  intro dp un gd cn cs a ccd cl outer A₀ base h₀ L m s Q E a1 a2 a3 a4 a5 a6 a7 a8 a9 a10 a11 a12
  exact c a1 a2 a3 a4 a5 a6 a7 a8 (hp a9) (by omega) (by omega) a12
abbrev IdmPre (news : List (Addr × Obj)) (st1 st2 : Option (Addr × Obj)) : Prop :=
  (∀ p ∈ news, p.1 ≠ 30) ∧ (∀ p ∈ news, p.1 ≠ 37) ∧ TOk qDig st1 ∧ TOk qUnd st2 ∧ (∀ q, st1 = some q → q.1 ≠ 37) ∧ (∀ q, st2 = some q → q.1 ≠ 30)
abbrev IdmOut (x y : Int) (news : List (Addr × Obj)) (st1 st2 : Option (Addr × Obj)) (h₀ : Heap) (L : Addr) (m : Str → Option Value) (s : Shared) (Q : Value → Shared → Prop) : Prop :=
  ∀ (l : Addr) (u1 u2 : Tok) (q1 q2 : Addr × Obj) (h' : Heap) (tk' : Nat), TOk qDig (some q1) → TOk qUnd (some q2) → Fr h₀ L h' m →
        News h₀ L h' ((l, tupOf [.int x u1, .int y u2]) :: (TS 30 32 4 (some q1) ++ (TS 37 47 4 (some q2) ++ news))) → (∀ p ∈ TS 30 32 4 (some q1) ++ (TS 37 47 4 (some q2) ++ news), p.1 < l) → q1.1 ≠ 37 → q2.1 ≠ 30 →
        (st1 = some q1 ∨ ∀ p ∈ news, p.1 < q1.1) → (st2 = some q2 ∨ ∀ p ∈ news, p.1 < q2.1) → Q (.ref l) { s with heap := h', toks := tk' }
theorem IdmOut.congr {x y x' y' : Int} {news : List (Addr × Obj)} {st1 st2 : Option (Addr × Obj)} {h₀ : Heap} {L : Addr} {m : Str → Option Value} {s : Shared} {Q : Value → Shared → Prop} (h : IdmOut x y news st1 st2 h₀ L m s Q) (e1 : x = x') (e2 : y = y') : IdmOut x' y' news st1 st2 h₀ L m s Q := e1 ▸ e2 ▸ h
set_option maxHeartbeats 8000000 in
theorem idm_pos {w : World} {mean : ExcName → Option Value} {mg mb : Str → Option Value} {a b : Nat} {t1 t2 : Tok} {news : List (Addr × Obj)} {st1 st2 : Option (Addr × Obj)} :
    Ch w mean mg mb 56 (TS 30 32 4 st1 ++ (TS 37 47 4 st2 ++ news)) 107 ((1 ≤ b ∧ b < 2 ^ 16 ∧ a < 2 ^ 32) ∧ IdmPre news st1 st2) [.int (a : Int) t1, .int (b : Int) t2]
      (fun h₀ L m s Q => IdmOut ((a / b : Nat) : Int) ((a % b : Nat) : Int) news st1 st2 h₀ L m s Q) := by
  unfold Ch
  w_top off
  k_fill
  intro dp un gd cn cs a9 ccd cl outer A₀ base h₀ L m s Q E hcA hcB B₀ F₀ X₀ N₀ T₀ hk hpre hd hu hret
  obtain ⟨ck, c2, c3, c4, c5⟩ := cs
  obtain rfl : ck = .function := hk
  obtain ⟨⟨h1, h2, h3⟩, g1, g2, g3, g4, g5, g6⟩ := hpre
  refine wpAny_call ?_
  k_enter
  iterate 13 (first | walk1 | (dsimp only; walk1))
  · exfalso; omega
  iterate 30 (first | walk1 | (dsimp only; walk1))
  obtain ⟨n, D, hpre⟩ := divPre_of (news := news) (st1 := st1) (st2 := st2) h1 h2 h3 g1 g2 g3 g4 g5 g6
  k_dflt (refine' divpos_spec (st1 := st1) (st2 := st2) (n := n) (D := D) hcA hcB (by k_asm) (by k_asm) (by k_asm) (by k_asm) (by k_asm) rfl hpre (by ktr_room) (by ktr_units) ?_)
  intro l u1 u2 q1 q2 h' tk' k1 k2 F' N' lt n37 n30 s1 s2
  (try dsimp only)
  walk1
  rename_i kF2 kN2 Tc2 kX2
  exact hret l u1 u2 q1 q2 _ _ k1 k2 (by assumption) kN2 lt n37 n30 s1 s2
set_option maxHeartbeats 8000000 in
theorem idm_low {w : World} {mean : ExcName → Option Value} {mg mb : Str → Option Value} {x b : Nat} {t1 t2 : Tok} {news : List (Addr × Obj)} {st1 st2 : Option (Addr × Obj)} :
    Ch w mean mg mb 56 (TS 30 32 4 st1 ++ (TS 37 47 4 st2 ++ news)) 109 ((1 ≤ b ∧ b < 2 ^ 16 ∧ x < 2 ^ 32) ∧ IdmPre news st1 st2) [.int (-((x : Int) + 1)) t1, .int (b : Int) t2]
      (fun h₀ L m s Q => IdmOut (-((x / b : Nat) : Int) - 1) ((b : Int) + (-((x % b : Nat) : Int) - 1)) news st1 st2 h₀ L m s Q) := by
  unfold Ch
  w_top off
  k_fill
  intro dp un gd cn cs a9 ccd cl outer A₀ base h₀ L m s Q E hcA hcB B₀ F₀ X₀ N₀ T₀ hk hpre hd hu hret
  obtain ⟨ck, c2, c3, c4, c5⟩ := cs
  obtain rfl : ck = .function := hk
  obtain ⟨⟨h1, h2, h3⟩, hp⟩ := hpre
  refine wpAny_call ?_
  k_enter
  iterate 13 (first | walk1 | (dsimp only; walk1))
  · exfalso; omega
  iterate 32 (first | walk1 | (dsimp only; walk1))
  rw [show Builtin.bitNot (-((x : Int) + 1)) = (x : Int) from by unfold Builtin.bitNot; omega]
  k_dflt (refine' idm_pos (st1 := st1) (st2 := st2) hcA hcB (by k_asm) (by k_asm) (by k_asm) (by k_asm) (by k_asm) rfl ⟨⟨h1, h2, h3⟩, hp⟩ (by ktr_room) (by ktr_units) ?_)
  intro l u1 u2 q1 q2 h' tk' k1 k2 F' N' lt n37 n30 s1 s2
  (try dsimp only)
  iterate 25 (first | walk1 | (dsimp only; walk1))
  rename_i DT kk kF kN kl
  walk1
  rename_i kF2 kN2 Tc2 kX2
  refine hret DT _ _ q1 q2 _ _ k1 k2 (by assumption) (fun p hp => kN2 p (by
    rcases List.mem_cons.mp hp with rfl | hp
    · exact .head _
    · exact .tail _ (.tail _ hp))) (allLt_all kl.2) n37 n30 s1 s2
theorem idm_nn {w : World} {mean : ExcName → Option Value} {mg mb : Str → Option Value} {a : Int} {b : Nat} {t1 t2 : Tok} {news : List (Addr × Obj)} {st1 st2 : Option (Addr × Obj)} :
    Ch w mean mg mb 56 (TS 30 32 4 st1 ++ (TS 37 47 4 st2 ++ news)) 109 ((1 ≤ b ∧ b < 2 ^ 16 ∧ a.natAbs < 2 ^ 32) ∧ IdmPre news st1 st2) [.int a t1, .int (b : Int) t2]
      (fun h₀ L m s Q => IdmOut (a.fdiv (b : Int)) (a.fmod (b : Int)) news st1 st2 h₀ L m s Q) := by
  by_cases h : 0 ≤ a
  · obtain ⟨x, rfl⟩ : ∃ x : Nat, a = (x : Int) := ⟨a.toNat, by omega⟩
    rw [fdiv_nat, fmod_nat]
    exact Ch.mono idm_pos (by decide) (fun p => ⟨⟨p.1.1, p.1.2.1, by have := p.1.2.2; omega⟩, p.2⟩)
  · obtain ⟨x, rfl⟩ : ∃ x : Nat, a = -((x : Int) + 1) := ⟨(-a - 1).toNat, by omega⟩
    by_cases hb : 1 ≤ b
    · rw [fdiv_low x b hb, fmod_low x b hb]
      exact Ch.mono idm_low (by decide) (fun p => ⟨⟨p.1.1, p.1.2.1, by have := p.1.2.2; omega⟩, p.2⟩)
    · intro hcA hcB B₀ F₀ X₀ N₀ T₀ hk hpre
      exact absurd hpre.1.1 hb
set_option maxHeartbeats 8000000 in
theorem idm_neg {w : World} {mean : ExcName → Option Value} {mg mb : Str → Option Value} {a : Int} {b : Nat} {t1 t2 : Tok} {news : List (Addr × Obj)} {st1 st2 : Option (Addr × Obj)} :
    Ch w mean mg mb 56 (TS 30 32 4 st1 ++ (TS 37 47 4 st2 ++ news)) 111 ((1 ≤ b ∧ b < 2 ^ 16 ∧ a.natAbs < 2 ^ 32) ∧ IdmPre news st1 st2) [.int a t1, .int (-(b : Int)) t2]
      (fun h₀ L m s Q => IdmOut ((-a).fdiv (b : Int)) (-((-a).fmod (b : Int))) news st1 st2 h₀ L m s Q) := by
  unfold Ch
  w_top off
  k_fill
  intro dp un gd cn cs a9 ccd cl outer A₀ base h₀ L m s Q E hcA hcB B₀ F₀ X₀ N₀ T₀ hk hpre hd hu hret
  obtain ⟨ck, c2, c3, c4, c5⟩ := cs
  obtain rfl : ck = .function := hk
  obtain ⟨⟨h1, h2, h3⟩, hp⟩ := hpre
  refine wpAny_call ?_
  k_enter
  iterate 13 (first | walk1 | (dsimp only; walk1))
  · exfalso; omega
  iterate 25 (first | walk1 | (dsimp only; walk1))
  rw [show (-(-(b : Int))) = (b : Int) from by omega]
  k_dflt (refine' idm_nn (st1 := st1) (st2 := st2) hcA hcB (by k_asm) (by k_asm) (by k_asm) (by k_asm) (by k_asm) rfl ⟨⟨h1, h2, by rw [Int.natAbs_neg]; exact h3⟩, hp⟩ (by ktr_room) (by ktr_units) ?_)
  intro l u1 u2 q1 q2 h' tk' k1 k2 F' N' lt n37 n30 s1 s2
  (try dsimp only)
  iterate 20 (first | walk1 | (dsimp only; walk1))
  rename_i DT kk kF kN kl
  walk1
  rename_i kF2 kN2 Tc2 kX2
  refine hret DT _ _ q1 q2 _ _ k1 k2 (by assumption) (fun p hp => kN2 p (by
    rcases List.mem_cons.mp hp with rfl | hp
    · exact .head _
    · exact .tail _ (.tail _ hp))) (allLt_all kl.2) n37 n30 s1 s2
theorem idm_spec {w : World} {mean : ExcName → Option Value} {mg mb : Str → Option Value} {a b : Int} {t1 t2 : Tok} {news : List (Addr × Obj)} {st1 st2 : Option (Addr × Obj)} :
    Ch w mean mg mb 56 (TS 30 32 4 st1 ++ (TS 37 47 4 st2 ++ news)) 111 ((b ≠ 0 ∧ b.natAbs < 2 ^ 16 ∧ a.natAbs < 2 ^ 32) ∧ IdmPre news st1 st2) [.int a t1, .int b t2]
      (fun h₀ L m s Q => IdmOut (a.fdiv b) (a.fmod b) news st1 st2 h₀ L m s Q) := by
  by_cases h : 0 ≤ b
  · obtain ⟨c, rfl⟩ : ∃ c : Nat, b = (c : Int) := ⟨b.toNat, by omega⟩
    exact Ch.mono idm_nn (by decide) (fun p => ⟨⟨by have := p.1.1; omega, by have := p.1.2.1; omega, p.1.2.2⟩, p.2⟩)
  · obtain ⟨c, rfl⟩ : ∃ c : Nat, b = -(c : Int) := ⟨(-b).toNat, by omega⟩
    rw [← fdiv_nn a (-(c : Int)), ← fmod_nn a (-(c : Int)), Int.neg_neg]
    exact Ch.mono idm_neg (by decide) (fun p => ⟨⟨by have := p.1.1; omega, by have := p.1.2.1; omega, p.1.2.2⟩, p.2⟩)
end
-- part R3
section
open PySem PySem.W PyProof.Rows
set_option Elab.async false
set_option maxRecDepth 100000
section
variable {prog : Program} {w : World} {A : Around} {E : Value → Shared → Prop} {s : Shared} {env : Env} {h₀ : Heap} {target : PySem.Expr} {body : List Stmt} {Q : Flow → Shared → Prop}
def EnumTurn {σ : Type} (h₀ : Heap) (L : Addr) (its : List (Addr × Obj)) (Led : σ → List (Addr × Obj)) (stored : List Str) (m₀ : Str → Option Value) (P : σ → Prop) (s₁ : Shared) (f : Flow) (s₂ : Shared) : Prop :=
  f = .next ∧ ∃ (c : σ) (h' : Heap) (tk : Nat) (m' : Str → Option Value) (news' : List (Addr × Obj)), s₂ = { s₁ with heap := h', toks := tk } ∧ Fr h₀ L h' m' ∧ News h₀ L h' news' ∧ (∀ p ∈ its, p ∈ news') ∧ (∀ p ∈ Led c, p ∈ news') ∧ (∀ p ∈ Led c, ∀ q ∈ its, p.1 ≠ q.1) ∧
    (∀ z, stored.contains z = false → m' z = m₀ z) ∧ P c
theorem EnumTurn.mk {σ : Type} {L : Addr} {its : List (Addr × Obj)} {Led : σ → List (Addr × Obj)} {stored : List Str} {m₀ : Str → Option Value} {P : σ → Prop} {s₁ : Shared} (c : σ) {h' : Heap} {tk : Nat} {m' : Str → Option Value} {news' : List (Addr × Obj)}
    (F : Fr h₀ L h' m') (N : News h₀ L h' news') (a : ∀ p ∈ its, p ∈ news') (b : ∀ p ∈ Led c, p ∈ news') (d : ∀ p ∈ Led c, ∀ q ∈ its, p.1 ≠ q.1)
    (g : ∀ z, stored.contains z = false → m' z = m₀ z) (i : P c) : EnumTurn h₀ L its Led stored m₀ P s₁ .next { s₁ with heap := h', toks := tk } :=
  ⟨rfl, c, h', tk, m', news', rfl, F, N, a, b, d, g, i⟩
theorem en_fr {L : Addr} {h : Heap} {stored : List Str} {m₀ m₁ : Str → Option Value} (h2 : ∀ z, stored.contains z = false → m₁ z = m₀ z) (F : Fr h₀ L h m₁) : Fr h₀ L h (fun z => if stored.contains z then m₁ z else m₀ z) := by
  have em : (fun z => if stored.contains z then m₁ z else m₀ z) = m₁ := by
    funext z
    by_cases hz : stored.contains z = true
    · rw [if_pos hz]
    · rw [if_neg hz]; exact (h2 z (by simpa using hz)).symm
  rw [em]; exact F
theorem enum_inv {σ : Type} {I : Addr} {lp : Addr × Obj} {m₀ : Str → Option Value} (Led : σ → List (Addr × Obj)) (stored : List Str) (P : Nat → σ → Prop) (all : List Value)
    (hlp : ∀ c, lp ∈ Led c)
    (turn : ∀ (c : σ) (i : Nat) (v : Value) (u : Str → Option Value) (T : Addr) (t : Tok) (oE oI : Obj) (h : Heap) (tk : Nat), all[i]? = some v → P i c → IsTup h T #[.int (i : Int) t, v] → oE.cls = .type "enumerate" → oI.cls = .type "list_iterator" →
      Fr h₀ env.locals h (fun z => if stored.contains z then u z else m₀ z) → News h₀ env.locals h ((I + 1, oE) :: (I, oI) :: Led c) →
      wpAny (model prog w) A (assign target env (.ref T)) (fun _ s₂ => wpAny (model prog w) A (execs body env) (EnumTurn h₀ env.locals [(I + 1, oE), (I, oI)] Led stored m₀ (P (i + 1)) { s with heap := h, toks := tk }) E s₂) E { s with heap := h, toks := tk })
    (done : ∀ (c : σ) (u : Str → Option Value) (h : Heap) (tk : Nat), P all.length c → Fr h₀ env.locals h (fun z => if stored.contains z then u z else m₀ z) → News h₀ env.locals h (Led c) → Q .next { s with heap := h, toks := tk }) :
    ∀ (r : List Value) (i : Nat) (c : σ) (m : Str → Option Value), all.drop i = r → i ≤ all.length → P i c → (∀ z, stored.contains z = false → m z = m₀ z) →
      ItemsRest prog w A E h₀ env target body Q s [(I + 1, "enumerate"), (I, "list_iterator")] [lp] (enumItems i r) m (Led c) := by
  intro r
  induction r with
  | nil =>
    intro i c m hd hi hp h2
    have hil : i = all.length := by
      have := congrArg List.length hd
      simp at this
      omega
    subst hil
    exact ItemsRest.zero fun h tk F N => done c m h tk hp (en_fr h2 F) N
  | cons v r ih =>
    intro i c m hd hi hp h2
    have hv : all[i]? = some v := by
      have := congrArg (fun l => l[0]?) hd
      simpa using this
    have hlt : i < all.length := by
      rcases Nat.lt_or_ge i all.length with h | h
      · exact h
      · rw [List.drop_eq_nil_of_le h] at hd; cases hd
    have hd' : all.drop (i + 1) = r := by
      have := congrArg (List.drop 1) hd
      simpa using this
    refine ItemsRest.pair fun T t h tk hT F => ?_
    refine AllObj.cons fun oE hE => AllObj.cons fun oI hI => AllObj.nil fun N => ?_
    refine wpAny_mono (turn c i v m T t oE oI h tk hv hp hT hE hI (en_fr h2 F) N) (fun _ s₂ q => ?_) fun _ _ e => e
    refine wpAny_mono q (fun f s₃ q => ?_) fun _ _ e => e
    obtain ⟨rfl, c', h', tk', m', news', rfl, F', N', hm, hl, hI2, k2, hp'⟩ := q
    refine ⟨h', tk', m', Led c', rfl, F', fun p hp => ?_, hI2, And.intro (hlp c') trivial, ih (i + 1) c' m' hd' hlt hp' k2⟩
    rcases List.mem_append.mp hp with hp | hp
    · exact N' p (hm p hp)
    · exact N' p (hl p hp)
end
end
-- part T10
section
open PySem PySem.W PyProof.Rows
set_option Elab.async false
set_option maxRecDepth 100000
def prodF (s : Int) (ds : List Int) : Int := ds.foldl (fun p f => p * (f + 1)) s
def dvs (times i : Nat) : Int := 2 ^ times * (1 - 2 * (((i % 2 : Nat)) : Int))
theorem dvs_ok {times : Nat} (i : Nat) (h1 : 1 ≤ times) (h2 : times ≤ 3) : dvs times i ≠ 0 ∧ (dvs times i).natAbs < 2 ^ 16 := by
  unfold dvs
  have ht : times = 1 ∨ times = 2 ∨ times = 3 := by omega
  rcases Nat.mod_two_eq_zero_or_one i with e | e <;> rw [e] <;> rcases ht with rfl | rfl | rfl <;> decide
def FigOk (start : Int) (times : Nat) (cs : List Int) : Prop :=
  ∀ i c, cs[i]? = some c → c.natAbs < 2 ^ 32 ∧ (prodF start (digs (2 ^ times) (digD i times) i)).fmod (dvs times i) = c.fmod (dvs times i)
abbrev FigOut (X : Addr × Obj) (news : List (Addr × Obj)) (h₀ : Heap) (L : Addr) (m : Str → Option Value) (s : Shared) (Q : Value → Shared → Prop) : Prop :=
  ∀ (st1' st2' : Option (Addr × Obj)) (h' : Heap) (tk' : Nat), IdmPre (X :: news) st1' st2' → Fr h₀ L h' m → News h₀ L h' (TS 30 32 4 st1' ++ (TS 37 47 4 st2' ++ (X :: news))) → Q (.bool true) { s with heap := h', toks := tk' }
set_option maxHeartbeats 8000000 in
theorem figures_spec {w : World} {mean : ExcName → Option Value} {mg mb : Str → Option Value} {start : Int} {times : Nat} {cs : List Int} {vc : List Value} {ec : Nat} {lc : Addr} {t1 t2 : Tok} {news : List (Addr × Obj)} {st1 st2 : Option (Addr × Obj)} :
    Ch w mean mg mb 151 (TS 30 32 4 st1 ++ (TS 37 47 4 st2 ++ ((lc, listOf vc.toArray ec) :: news))) 115 ((1 ≤ times ∧ times ≤ 3 ∧ cs.length ≤ 64 ∧ IntsAre vc cs ∧ FigOk start times cs) ∧ IdmPre ((lc, listOf vc.toArray ec) :: news) st1 st2) [.ref lc, .int start t1, .int (times : Int) t2]
      (fun h₀ L m s Q => FigOut (lc, listOf vc.toArray ec) news h₀ L m s Q) := by
  unfold Ch
  w_top off
  k_fill
  intro dp un gd cn cs9 a9 ccd cl outer A₀ base h₀ L m s Q E hcA hcB B₀ F₀ X₀ N₀ T₀ hk hpre hd hu hret
  obtain ⟨ck, c2, c3, c4, c5⟩ := cs9
  obtain rfl : ck = .function := hk
  obtain ⟨⟨h1, h2, h3, hi, hfig⟩, hip⟩ := hpre
  refine wpAny_call ?_
  k_enter
  iterate 2 (first | walk1 | (dsimp only; walk1))
  k_here
  rename Fr _ _ _ _ => lF'
  with_unfolding_all refine' For_turns lF' ?_
  k_whole
  iterate 6 (first | walk1 | (dsimp only; walk1))
  rename Fr _ _ _ _ => lF
  rename News _ _ _ _ => lN
  have lN2 : News _ _ _ (TS 30 32 4 st1 ++ (TS 37 47 4 st2 ++ ((lc, listOf vc.toArray ec) :: news))) := lN
  with_unfolding_all refine ktu_enum (lo := listOf vc.toArray ec) (vs := vc) (by rfl) lF lN2 (List.mem_append_right _ (List.mem_append_right _ (.head _))) (by rfl) (by rfl) rfl ?_
  intro I lI
  have l30 : @LT.lt Nat _ 30 I := by
    cases st1 with
    | none => exact lI _ (.head _)
    | some q => exact lI _ (.head _)
  have l37 : @LT.lt Nat _ 37 I := by
    cases st2 with
    | none => exact lI _ (List.mem_append_right _ (.head _))
    | some q => exact lI _ (List.mem_append_right _ (.head _))
  have lX : @LT.lt Nat _ lc I := lI _ (List.mem_append_right _ (List.mem_append_right _ (.head _)))
  with_unfolding_all refine' enum_inv (σ := Option (Addr × Obj) × Option (Addr × Obj)) (fun c => TS 30 32 4 c.1 ++ (TS 37 47 4 c.2 ++ ((lc, listOf vc.toArray ec) :: news))) [Str.ofString "number", Str.ofString "count", Str.ofString "product", Str.ofString "divisor", Str.ofString "figure"] (fun _ c => IdmPre ((lc, listOf vc.toArray ec) :: news) c.1 c.2 ∧ ∀ p ∈ TS 30 32 4 c.1 ++ (TS 37 47 4 c.2 ++ ((lc, listOf vc.toArray ec) :: news)), p.1 ≠ I ∧ p.1 ≠ I + 1) vc (fun _ => List.mem_append_right _ (List.mem_append_right _ (.head _))) ?turn ?done vc 0 (st1, st2) _ rfl (Nat.zero_le _) ⟨hip, ?ne⟩ (fun _ _ => rfl)
  case ne =>
    intro p hp
    have h9 := lI p hp
    exact ⟨Nat.ne_of_lt h9, Nat.ne_of_lt (Nat.lt_trans h9 (Nat.lt_succ_self _))⟩
  case turn =>
    rintro ⟨sa, sb⟩ i v u T t oE oI h tk hv hP hT hE hI F9 N9
    clear lF lN lN2
    dsimp only at hP F9 N9
    obtain ⟨hip9, hne⟩ := hP
    obtain ⟨g1, g2, g3, g4, g5, g6⟩ := hip9
    have hlen := hi.length
    have hil : i < vc.length := by
      rcases Nat.lt_or_ge i vc.length with h | h
      · exact h
      · rw [List.getElem?_eq_none h] at hv; cases hv
    obtain ⟨c, hc⟩ : ∃ c, cs[i]? = some c := ⟨cs[i]'(by omega), List.getElem?_eq_getElem _⟩
    obtain ⟨tc, hvc⟩ := hi.get i c hc
    obtain rfl : v = .int c tc := by rw [hv] at hvc; exact Option.some.inj hvc
    have hfi := hfig i c hc
    (try k_fold)
    iterate 53 (first | walk1 | (dsimp only; walk1))
    rename_i Fd Nd
    have Nd2 : News _ _ _ (TS 30 32 4 sa ++ ((I + 1, oE) :: (I, oI) :: (TS 37 47 4 sb ++ ((lc, listOf vc.toArray ec) :: news)))) := fun p hp => Nd p (by
      simp only [List.mem_cons, List.mem_append] at hp ⊢
      rcases hp with h | h | h | h | h <;> simp [h])
    have n30 : ∀ p ∈ (I + 1, oE) :: (I, oI) :: (TS 37 47 4 sb ++ ((lc, listOf vc.toArray ec) :: news)), p.1 ≠ 30 := by
      intro p hp
      simp only [List.mem_cons, List.mem_append] at hp
      rcases hp with rfl | rfl | hp | hp
      · exact Nat.ne_of_gt (Nat.lt_succ_of_lt l30)
      · exact Nat.ne_of_gt l30
      · cases sb with
        | none => rcases List.mem_cons.mp hp with rfl | hp
                  · exact neN (by decide)
                  · exact absurd hp List.not_mem_nil
        | some q => rcases List.mem_cons.mp hp with rfl | hp
                    · show (37 : Addr) ≠ 30; exact neN (by decide)
                    · rcases List.mem_cons.mp hp with rfl | hp
                      · exact g6 _ rfl
                      · exact absurd hp List.not_mem_nil
      · exact g1 p (List.mem_cons.mpr hp)
    k_dflt (refine' digits_spec (st := sa) (D := digD i times) hcA hcB (by k_asm) (by k_asm) (by k_asm) Nd2 (by k_asm) rfl (digPre_at h1 (by omega) (by omega) n30 g3) (by ktr_room) (by ktr_units) ?_)
    intro lA vsA enA q1 h2' tk2 hiA hq1 F2 N2 lA1 hst1 lA30 hqA
    (try dsimp only)
    clear Nd2 Nd Fd
    with_unfolding_all refine' kst_listL (σ := Int × Tok) (fun c => (lA, listOf vsA.toArray enA) :: (TS 30 32 4 (some q1) ++ ((I + 1, oE) :: (I, oI) :: (TS 37 47 4 sb ++ ((lc, listOf vc.toArray ec) :: news))))) (fun c => [(Str.ofString "product", .int c.1 c.2)]) (fun _ => True) [] (fun pre c => c.1 = prodF start pre) (start, t1) (by rfl) (fun _ => .head _) hiA F2 N2 trivial ?kk ?kp ?_ ?_
    case kk => kst_all
    case kp => rfl
    have hnat : digs (2 ^ times) (digD i times) i = nats (digN (2 ^ times) (digD i times) i) := digN_map _ _ _
    · rintro ⟨pv, pt⟩ pre post n tn u3 h3' tk3 own hsp hmem hoff _ hinv F3 N3
      dsimp only [kstB] at hinv F3 N3
      subst hinv
      clear F2 N2
      (try k_fold)
      iterate 21 (first | walk1 | (dsimp only; walk1))
      refine PyProof.Rows.mul_int ?_ (.of_right ?bits)
      case bits =>
        obtain ⟨d, hd9, rfl⟩ := nats_mem (ds := digN (2 ^ times) (digD i times) i) (n := n) (by rw [← hnat]; exact hmem)
        have hd8 : d < 2 ^ times := digN_lt _ _ _ _ (Nat.two_pow_pos _) hd9
        have hp8 : 2 ^ times ≤ 2 ^ 3 := Nat.pow_le_pow_right (by decide) h2
        exact bits_le (x := d + 1) (k := 64) (by omega)
      iterate 4 (first | walk1 | (dsimp only; walk1))
      refine kst_end (σ := Int × Tok) (prodF start pre * (n + 1), _) (by assumption) (by assumption) (fun p hp => in1 hp) (fun p hp => in2 hp) rfl trivial (by kst_all) (by kst_same) ?_
      simp [prodF]
    · rintro ⟨pv, pt⟩ u3 h3' tk3 _ hinv F3 N3
      dsimp only [kstB] at hinv F3 N3
      subst hinv
      clear F2 N2
      (try k_fold)
      rw [show (2 : Int) ^ ((times : Int)).toNat * (1 - 2 * (i : Int).fmod 2) = dvs times i by unfold dvs; rw [Int.toNat_natCast]; exact congrArg (fun z : Int => (2 : Int) ^ times * (1 - 2 * z)) (fmod_nat i 2)] at F3
      iterate 12 (first | walk1 | (dsimp only; walk1))
      have N4 : News _ _ _ (TS 30 32 4 (some q1) ++ (TS 37 47 4 sb ++ ((lA, listOf vsA.toArray enA) :: (I + 1, oE) :: (I, oI) :: (lc, listOf vc.toArray ec) :: news))) := fun p hp => N3 p (by
        simp only [List.mem_cons, List.mem_append] at hp ⊢
        rcases hp with h | h | h | h | h | h | h <;> simp [h])
      have lAA : ∀ p ∈ TS 37 47 4 sb ++ ((lc, listOf vc.toArray ec) :: news), p.1 < lA := fun p hp => lA1 p (.tail _ (.tail _ hp))
      have l37A : @LT.lt Nat _ 37 lA := Nat.lt_trans l37 (lA1 _ (.tail _ (.head _)))
      have hq137 : q1.1 ≠ 37 := by
        rcases hst1 with e | e
        · exact g5 q1 e
        · exact Nat.ne_of_gt (Nat.lt_trans l37 (e _ (.tail _ (.head _))))
      have hq1I : q1.1 ≠ I ∧ q1.1 ≠ I + 1 := by
        rcases hst1 with e | e
        · exact hne q1 (by rw [e]; exact .tail _ (.head _))
        · exact ⟨Nat.ne_of_gt (e _ (.tail _ (.head _))), Nat.ne_of_gt (e _ (.head _))⟩
      have hip2 : IdmPre ((lA, listOf vsA.toArray enA) :: (I + 1, oE) :: (I, oI) :: (lc, listOf vc.toArray ec) :: news) (some q1) sb := by
        refine ⟨?_, ?_, hq1, g4, ?_, g6⟩
        · intro p hp
          simp only [List.mem_cons] at hp
          rcases hp with rfl | rfl | rfl | hp
          · exact Nat.ne_of_gt lA30
          · exact Nat.ne_of_gt (Nat.lt_succ_of_lt l30)
          · exact Nat.ne_of_gt l30
          · exact g1 p (List.mem_cons.mpr hp)
        · intro p hp
          simp only [List.mem_cons] at hp
          rcases hp with rfl | rfl | rfl | hp
          · exact Nat.ne_of_gt l37A
          · exact Nat.ne_of_gt (Nat.lt_succ_of_lt l37)
          · exact Nat.ne_of_gt l37
          · exact g2 p (List.mem_cons.mpr hp)
        · intro q e
          cases e
          exact hq137
      have hdv0 := dvs_ok i h1 h2
      k_dflt (refine' idm_spec (st1 := some q1) (st2 := sb) hcA hcB (by k_asm) (by k_asm) (by k_asm) N4 (by k_asm) rfl ⟨⟨hdv0.1, hdv0.2, hfi.1⟩, hip2⟩ (by ktr_room) (by ktr_units) ?_)
      intro l u1 u2 qa qb h4' tk4 ka kb F4 N4b lt4 n37a n30b sA sB
      (try dsimp only)
      clear N4 N3 F3
      have hdz := hdv0.1
      iterate 34 (first | walk1 | (dsimp only; walk1))
      rotate_left
      · rename_i hneq
        exact absurd hfi.2.symm hneq
      rename_i Fz Nz lz ez
      have hqaI : qa.1 ≠ I ∧ qa.1 ≠ I + 1 := by
        rcases sA with e | e
        · cases e; exact hq1I
        · exact ⟨Nat.ne_of_gt (e _ (.tail _ (.tail _ (.head _)))), Nat.ne_of_gt (e _ (.tail _ (.head _)))⟩
      have hqbI : qb.1 ≠ I ∧ qb.1 ≠ I + 1 := by
        rcases sB with e | e
        · exact hne qb (by rw [e]; exact List.mem_append_right _ (.tail _ (.head _)))
        · exact ⟨Nat.ne_of_gt (e _ (.tail _ (.tail _ (.head _)))), Nat.ne_of_gt (e _ (.tail _ (.head _)))⟩
      have hne2 : ∀ p ∈ TS 30 32 4 (some qa) ++ (TS 37 47 4 (some qb) ++ ((lc, listOf vc.toArray ec) :: news)), p.1 ≠ I ∧ p.1 ≠ I + 1 := by
        intro p hp
        simp only [TS, List.cons_append, List.nil_append, List.mem_cons] at hp
        rcases hp with rfl | rfl | rfl | rfl | hp
        · exact ⟨Nat.ne_of_lt l30, Nat.ne_of_lt (Nat.lt_succ_of_lt l30)⟩
        · exact hqaI
        · exact ⟨Nat.ne_of_lt l37, Nat.ne_of_lt (Nat.lt_succ_of_lt l37)⟩
        · exact hqbI
        · exact hne p (List.mem_append_right _ (List.mem_append_right _ (List.mem_cons.mpr hp)))
      refine EnumTurn.mk (some qa, some qb) Fz Nz ?_ ?_ ?_ ?_ ⟨⟨g1, g2, ka, kb, ?_, ?_⟩, hne2⟩
      · intro p hp
        simp only [List.mem_cons, List.mem_append] at hp ⊢
        rcases hp with h | h | h
        · simp [h]
        · simp [h]
        · exact absurd h List.not_mem_nil
      · intro p hp
        simp only [List.mem_cons, List.mem_append] at hp ⊢
        rcases hp with h | h | h | h <;> simp [h]
      · intro p hp q hq
        simp only [List.mem_cons] at hq
        rcases hq with rfl | rfl | hq
        · exact (hne2 p hp).2
        · exact (hne2 p hp).1
        · exact absurd hq List.not_mem_nil
      · intro z h3
        simp only [List.contains_cons, List.contains_nil, Bool.or_false, Bool.or_eq_false_iff, beq_eq_false_iff_ne, ne_eq] at h3
        simp [h3]
      · intro q e; cases e; exact n37a
      · intro q e; cases e; exact n30b
  case done =>
    rintro ⟨sa, sb⟩ u h tk hP F9 N9
    clear lF lN lN2
    dsimp only at hP F9 N9
    (try k_fold)
    iterate 3 (first | walk1 | (dsimp only; walk1))
    walk1
    rename_i kF kN _ _
    exact hret sa sb _ _ hP.1 (by assumption) kN
end
-- part R5
section
open PySem PySem.W PyProof.Rows
set_option Elab.async false
set_option maxRecDepth 100000
section
variable {prog : Program} {w : World} {A : Around} {E : Value → Shared → Prop} {s : Shared} {env : Env} {h₀ : Heap} {target : PySem.Expr} {body orelse : List Stmt} {Q : Flow → Shared → Prop}
def ElseTurn (h₀ : Heap) (L : Addr) (own news : List (Addr × Obj)) (J : (Str → Option Value) → Prop) (s : Shared) (Q : Flow → Shared → Prop) (f : Flow) (s₃ : Shared) : Prop :=
  match f with
  | .ret v => Q (.ret v) s₃
  | .next => ∃ h' tk m', s₃ = { s with heap := h', toks := tk } ∧ Fr h₀ L h' m' ∧ News h₀ L h' (own ++ news) ∧ J m'
  | _ => False
theorem else_loop {R : Result → Shared → Prop} {I : Addr} {fp wr : List Addr} {n : Nat} {P Md : Nat → Value → Heap → Prop} {St : Nat → Heap → Prop} {m : Str → Option Value} {news : List (Addr × Obj)} (W : KTurns prog w A target I fp wr n P Md St)
    (hLf : env.locals ∉ fp) (hwr : ∀ b ∈ wr, h₀.get? b = none) (hnw : ∀ p ∈ news, p.1 ∉ wr) (hst : St 0 s.heap) (F : Fr h₀ env.locals s.heap m) (N : News h₀ env.locals s.heap news)
    (J : Nat → (Str → Option Value) → Prop) (h0 : J 0 m) (hJn : ∀ i m, J i m → i < n)
    (step : ∀ i v m₁ h₁ tk₁ own, P i v h₁ → J i m₁ → Fr h₀ env.locals h₁ m₁ → News h₀ env.locals h₁ (own ++ news) →
      wpAny (model prog w) A (assign target env v) (fun _ s₂ => wpAny (model prog w) A (execs body env) (ElseTurn h₀ env.locals own news (J (i + 1)) { s with heap := h₁, toks := tk₁ } (fun f s' => R (.ok f) s'))
        (notedBy (model prog w) A env fun e s' => R (.error e) s') s₂) (notedBy (model prog w) A env fun e s' => R (.error e) s') { s with heap := h₁, toks := tk₁ }) :
    codeAny (model prog w) A (.forLoop target (.ref I) body orelse env) R s := by
  have hLw : env.locals ∉ wr := fun h => hLf (W.sub _ h)
  have old : ∀ b o, h₀.get? b = some o → b ∉ wr := fun b o e hb => by rw [hwr b hb] at e; cases e
  refine codeAny_forLoop_any (fun k s' => ∃ i h' tk m', s' = { s with heap := h', toks := tk } ∧ St i h' ∧ Fr h₀ env.locals h' m' ∧ News h₀ env.locals h' news ∧ J i m' ∧ k = n - i) ?_ (n - 0)
    ⟨0, s.heap, s.toks, m, rfl, hst, F, N, h0, rfl⟩
  rintro k s' ⟨i, h', tk, m', rfl, hst', F', N', hJ, rfl⟩
  have hlt := hJn i m' hJ
  have carry : ∀ h₁ : Heap, (∀ b o, b ∉ wr → h'.get? b = some o → h₁.get? b = some o) → Fr h₀ env.locals h₁ m' ∧ News h₀ env.locals h₁ news := fun h₁ hk₁ =>
    ⟨⟨F'.ns.at' fun o e => hk₁ _ o hLw e, fun b o e => hk₁ b o (old b o e) (F'.keep b o e), F'.above⟩, fun p hp => ⟨hk₁ _ _ (hnw p hp) (N' p hp).1, (N' p hp).2⟩⟩
  refine W.item i _ _ _ hlt hst' fun v h₁ tk₁ hMd hk₁ => ?_
  refine W.go i v _ _ _ hMd fun h₂ hP hst₂ hk₂ => ?_
  obtain ⟨F₂, N₂⟩ := carry h₂ fun b o hb x => hk₂ b o hb (hk₁ b o hb x)
  have Nown : News h₀ env.locals h₂ (PyProof.Rows.ownOf h₀ fp h₂) := news_ownOf hLf
  refine wpAny_mono (step i v m' h₂ tk₁ (PyProof.Rows.ownOf h₀ fp h₂) hP hJ F₂ (Nown.append N₂)) (fun _ s₂ q => wpAny_mono q (fun f s₃ h₃ => ?_) fun _ _ e => e) fun _ _ e => e
  cases f with
  | ret v => exact h₃
  | brk => exact absurd h₃ id
  | cont => exact absurd h₃ id
  | next =>
    obtain ⟨h₃', tk₃, m₃, rfl, F₃, N₃, hJ₃⟩ := h₃
    refine ⟨n - (i + 1), by omega, i + 1, h₃', tk₃, m₃, rfl, ?_, F₃, N₃.right, hJ₃, rfl⟩
    refine W.frame _ _ _ hst₂ fun b hb o e => ?_
    cases hn : h₀.get? b with
    | some o₀ =>
      have q := F₂.keep b o₀ hn
      rw [e] at q
      exact (Option.some.inj q).symm ▸ F₃.keep b o₀ hn
    | none => exact (N₃ _ (List.mem_append_left _ (mem_ownOf hb hn e))).1
theorem enum_else {elts : List PySem.Expr} {k : Nat} {pos : Pos} {l : Addr} {vs : List Value} {n : Nat} {m₀ : Str → Option Value} {news : List (Addr × Obj)}
    (hh : A.handled = none) (F : Fr h₀ env.locals s.heap m₀) (N : News h₀ env.locals s.heap news) (hm : (l, listOf vs.toArray n) ∈ news) (hE : PassesOwn (model prog w) A env E)
    (J : Nat → (Str → Option Value) → Prop) (h0 : J 0 m₀) (hJn : ∀ i m, J i m → i < vs.length)
    (step : ∀ (i : Nat) (v : Value) (m₁ : Str → Option Value) (h₁ : Heap) (tk₁ : Nat) (own : List (Addr × Obj)) (T : Addr) (t : Tok), vs[i]? = some v → IsTup h₁ T #[.int (i : Int) t, v] → J i m₁ → Fr h₀ env.locals h₁ m₁ → News h₀ env.locals h₁ (own ++ news) →
      wpAny (model prog w) A (assign (.Tuple elts k pos) env (.ref T)) (fun _ s₂ => wpAny (model prog w) A (execs body env) (ElseTurn h₀ env.locals own news (J (i + 1)) { s with heap := h₁, toks := tk₁ } Q) E s₂) E { s with heap := h₁, toks := tk₁ }) :
    wpAny (model prog w) A (call (.type "enumerate") [.ref l]) (fun xv s₁ => wpAny (model prog w) A (pyIter xv) (fun it s₂ =>
      codeAny (model prog w) A (.forLoop (.Tuple elts k pos) it body orelse env) (fun r s' => match r with | .ok f => Q f s' | .error e => cameBackBy (model prog w) A env E e s') s₂) E s₁) E s := by
  have hax := N _ hm
  have hl : s.heap.IsList l vs.toArray := ⟨_, hax.1, rfl, n, rfl⟩
  have hlt : l < s.heap.objs.size := Heap.lt_size hax.1
  have hLs : env.locals < s.heap.objs.size := F.ns.lt
  refine call_enumerate_list hl fun h' hEn hI hsz hk => ?_
  refine wpAny_pyIter_enum hEn ?_
  refine else_loop (KTurns.ofWalksU (WalksT.enumerate hh (s.heap.objs.size + 1) s.heap.objs.size l (Nat.succ_ne_self _) (ktu_ne 1 hlt) (Nat.ne_of_lt hlt) vs.toArray).toU) ?_ ?_ ?_ ?_ (F.keeps hk) (N.grown hk) J h0 hJn ?_
  · intro hb
    have hb' : env.locals = s.heap.objs.size + 1 ∨ env.locals = s.heap.objs.size ∨ env.locals = l := by simpa using hb
    rcases hb' with e | e | e
    · exact ktu_ne 1 hLs e
    · exact Nat.ne_of_lt hLs e
    · exact hax.2.1 e.symm
  · intro b hb
    have hb' : b = s.heap.objs.size + 1 ∨ b = s.heap.objs.size := by simpa using hb
    rcases hb' with rfl | rfl
    · exact ktu_new F (Nat.le_add_right _ _)
    · exact ktu_new F (Nat.le_refl _)
  · intro p hp hb
    have hb' : p.1 = s.heap.objs.size + 1 ∨ p.1 = s.heap.objs.size := by simpa using hb
    have hlp := Heap.lt_size (N p hp).1
    rcases hb' with e | e
    · exact ktu_ne 1 hlp e
    · exact Nat.ne_of_lt hlp e
  · exact ⟨⟨.none, hEn⟩, hI, hl.at fun o e => hk l o e⟩
  · rintro i v m₁ h₁ tk₁ own ⟨T, vals, rfl, ⟨t, x, hx, rfl⟩, hT⟩ hJ F₁ N₁
    exact wpAny_mono (step i x m₁ h₁ tk₁ own T t (by simpa using hx) hT hJ F₁ N₁) (fun _ _ q => wpAny_passesOwn hE q) hE
theorem enum_else2 {elts : List PySem.Expr} {k : Nat} {pos : Pos} {l : Addr} {vs : List Value} {n : Nat} {m₀ : Str → Option Value} {news : List (Addr × Obj)} (stored : List Str) (P : Nat → Prop)
    (hh : A.handled = none) (F : Fr h₀ env.locals s.heap m₀) (N : News h₀ env.locals s.heap news) (hm : (l, listOf vs.toArray n) ∈ news) (hE : PassesOwn (model prog w) A env E)
    (h0 : P 0) (hJn : ∀ i, P i → i < vs.length)
    (step : ∀ (i : Nat) (v : Value) (u : Str → Option Value) (h₁ : Heap) (tk₁ : Nat) (own : List (Addr × Obj)) (T : Addr) (t : Tok), vs[i]? = some v → IsTup h₁ T #[.int (i : Int) t, v] → P i →
      Fr h₀ env.locals h₁ (fun z => if stored.contains z then u z else m₀ z) → News h₀ env.locals h₁ (own ++ news) →
      wpAny (model prog w) A (assign (.Tuple elts k pos) env (.ref T)) (fun _ s₂ => wpAny (model prog w) A (execs body env) (ElseTurn h₀ env.locals own news (fun m' => P (i + 1) ∧ ∀ z, stored.contains z = false → m' z = m₀ z) { s with heap := h₁, toks := tk₁ } Q) E s₂) E { s with heap := h₁, toks := tk₁ }) :
    wpAny (model prog w) A (call (.type "enumerate") [.ref l]) (fun xv s₁ => wpAny (model prog w) A (pyIter xv) (fun it s₂ =>
      codeAny (model prog w) A (.forLoop (.Tuple elts k pos) it body orelse env) (fun r s' => match r with | .ok f => Q f s' | .error e => cameBackBy (model prog w) A env E e s') s₂) E s₁) E s :=
  enum_else hh F N hm hE (fun i m' => P i ∧ ∀ z, stored.contains z = false → m' z = m₀ z) ⟨h0, fun _ _ => rfl⟩ (fun i m h => hJn i h.1)
    fun i v m₁ h₁ tk₁ own T t hv hT hJ F₁ N₁ => step i v m₁ h₁ tk₁ own T t hv hT hJ.1 (en_fr hJ.2 F₁) N₁
end
end
-- part R6
section
open PySem PySem.W PyProof.Rows
set_option Elab.async false
set_option maxRecDepth 100000
section
variable {M : Model} {A : Around} {E : Value → Shared → Prop} {s : Shared} {Q : Value → Shared → Prop}
theorem is_int_same {p : Int} {t u : Tok} (hp : smallInt p = true) (ht : t ≠ 0) (hu : u ≠ 0) (h : Q (.bool true) s) : wpAny M A (compareOp .Is (.int p t) (.int p u)) Q E s := by
  show wpAny M A (do return .bool (← (if (p == p && smallInt p) = true then isSame.cachedInt t u else isSame.created (p == p) t u))) Q E s
  rw [if_pos (by rw [beq_self_eq_true, hp]; rfl)]
  refine wpAny_bind ?_
  show wpAny M A (if (t == 0 || u == 0) = true then _ else _) _ E s
  rw [if_neg (by simp [ht, hu])]
  exact wpAny_bind (wpAny_rule (wpAny_pure (wpAny_pure h)))
theorem is_int_other {p q : Int} {t u : Tok} (hp : p ≠ q) (ht : t ≠ 0) (hu : u ≠ 0) (htu : t ≠ u) (h : Q (.bool false) s) : wpAny M A (compareOp .Is (.int p t) (.int q u)) Q E s := by
  show wpAny M A (do return .bool (← (if (p == q && smallInt p) = true then isSame.cachedInt t u else isSame.created (p == q) t u))) Q E s
  rw [if_neg (by simp [hp])]
  refine wpAny_bind ?_
  have e : (t == 0 || u == 0) = false := by simp [ht, hu]
  have e2 : (t == u) = false := by simp [htu]
  have e3 : (p == q) = false := by simp [hp]
  unfold isSame.created
  rw [e, e2, e3]
  exact wpAny_pure (wpAny_pure h)
end
end
-- part U11
section
open PySem PySem.W PyProof.Rows
set_option Elab.async false
set_option maxRecDepth 100000
set_option maxHeartbeats 8000000 in
theorem index_spec {w : World} {mean : ExcName → Option Value} {mg mb : Str → Option Value} {k : Nat} {ns : List Int} {vs : List Value} {t2 : Tok} {lA : Addr} {en : Nat} {news : List (Addr × Obj)} :
    Cg w mean mg mb 123 ((lA, listOf vs.toArray en) :: news) 3 (TkLt vs t2 ∧ IntsAre vs ns ∧ ns.length ≤ 64 ∧ ns[k]? = some 1 ∧ ∀ i, i < k → ns[i]? ≠ some 1) [.ref lA, .int 1 t2]
      (fun h₀ L m s Q => Rt h₀ L m ((lA, listOf vs.toArray en) :: news) s Q (fun t => .int (k : Int) t)) := by
  unfold Cg Rt
  w_top off
  k_fill
  intro dp un gd cn cs9 a9 ccd cl outer A₀ base h₀ L m s Q E B₀ F₀ X₀ N₀ T₀ hk hpre hd hu hret
  obtain ⟨ck, c2, c3, c4, c5⟩ := cs9
  obtain rfl : ck = .function := hk
  obtain ⟨htl, hi, h64, hk1, hk0⟩ := hpre
  have hlen := hi.length
  have hkl : k < ns.length := by
    rcases Nat.lt_or_ge k ns.length with h | h
    · exact h
    · rw [List.getElem?_eq_none h] at hk1; cases hk1
  refine wpAny_call ?_
  k_enter
  iterate 2 (first | walk1 | (dsimp only; walk1))
  k_here
  with_unfolding_all refine' wpAny_For ?_
  k_whole
  iterate 6 (first | walk1 | (dsimp only; walk1))
  rename Fr _ _ _ _ => lF
  rename News _ _ _ _ => lN
  with_unfolding_all refine' enum_else2 (n := en) (vs := vs) [Str.ofString "i", Str.ofString "j"] (fun i => i ≤ k) (by rfl) lF lN (.head _) (by passes_own) (Nat.zero_le _) (fun i h => by have : i ≤ k := h; omega) ?step
  rintro i v u h9 tk9 own T t hv hT hik F9 N9
  clear lF lN
  have hik2 : i ≤ k := hik
  have hil : i < ns.length := by omega
  obtain ⟨n, hn⟩ : ∃ n, ns[i]? = some n := ⟨ns[i]'hil, List.getElem?_eq_getElem _⟩
  obtain ⟨tn, hvn⟩ := hi.get i n hn
  obtain rfl : v = .int n tn := by rw [hv] at hvn; exact Option.some.inj hvn
  (try k_fold)
  iterate 15 (first | walk1 | (dsimp only; walk1))
  obtain ⟨n', t', e', ht0, ht1⟩ := htl _ (List.mem_of_getElem? hv)
  obtain ⟨rfl, rfl⟩ := Value.int.inj e'
  have ht2 : t2 ≠ 0 := Nat.ne_of_gt (Nat.lt_of_le_of_lt (Nat.zero_le _) ht1)
  by_cases hie : i = k
  · subst hie
    obtain rfl : n = 1 := by rw [hn] at hk1; exact Option.some.inj hk1
    refine is_int_same (by decide) (Nat.ne_of_gt ht0) ht2 ?_
    iterate 6 (first | walk1 | (dsimp only; walk1))
    dsimp only [ElseTurn]
    walk1
    rename News h₀ L _ _ => kN
    exact hret _ _ _ (by assumption) kN.right
  · have hn1 : n ≠ 1 := fun e => hk0 i (by omega) (by rw [hn, e])
    refine is_int_other hn1 (Nat.ne_of_gt ht0) ht2 (Nat.ne_of_lt ht1) ?_
    iterate 13 (first | walk1 | (dsimp only; walk1))
    · exact absurd (by assumption) hn1
    iterate 4 (first | walk1 | (dsimp only; walk1))
    dsimp only [ElseTurn]
    refine ⟨_, _, _, rfl, (by assumption), (by assumption), (show i + 1 ≤ k by omega), ?_⟩
    intro z h3
    simp only [List.contains_cons, List.contains_nil, Bool.or_false, Bool.or_eq_false_iff, beq_eq_false_iff_ne, ne_eq] at h3
    simp [h3]
end
-- part R7
section
open PySem PySem.W PyProof.Rows
set_option Elab.async false
set_option maxRecDepth 100000
section
variable {prog : Program} {w : World} {A : Around} {E : Value → Shared → Prop} {s : Shared} {env : Env} {h₀ : Heap} {x : Str} {px : Pos} {body : List Stmt} {Q : Flow → Shared → Prop}
/-- a range's loop, with the order of the tokens: each turn's int bears a token above nought and below the next -/
theorem range_tk {σ : Type} {r : Addr} {a₀ b₀ : Int} {t₀ u₀ v₀ : Tok} {n : Nat} {m₀ : Str → Option Value} (Led : σ → List (Addr × Obj)) (stored : List Str) (P : Nat → σ → Prop) (c₀ : σ)
    (hh : A.handled = none) (hx : env.kindOf x = some .local) (hp : (env.scope.kind == .class || (env.scope.kind == .module && env.locals != env.globals)) = false)
    (hr : IsRange s.heap r a₀ b₀ 1 t₀ u₀ v₀) (hsmall : Builtin.Range.small a₀ b₀ 1 = true) (hn : Builtin.Range.rangeSize a₀ b₀ 1 = (n : Int)) (F : Fr h₀ env.locals s.heap m₀) (N : News h₀ env.locals s.heap (Led c₀)) (hs : @LT.lt Nat _ 0 s.toks) (h0 : P 0 c₀)
    (hE : PassesOwn (model prog w) A env E)
    (turn : ∀ (c : σ) (i : Nat) (u : Str → Option Value) (t : Nat) (it : Obj) (h : Heap) (tk : Nat) (I : Addr), i < n → P i c → 0 < t → t < tk → (∀ p ∈ Led c₀, p.1 < I) → (∀ p ∈ Led c, p.1 ≠ I) →
      Fr h₀ env.locals h (fun y => if y = x then some (.int (a₀ + (i : Int)) t) else if stored.contains y then u y else m₀ y) → News h₀ env.locals h ((I, it) :: Led c) →
      wpAny (model prog w) A (execs body env) (EnumTurn h₀ env.locals [(I, it)] Led (x :: stored) m₀ (P (i + 1)) { s with heap := h, toks := tk }) E { s with heap := h, toks := tk })
    (done : ∀ (c : σ) (u : Str → Option Value) (h : Heap) (tk : Nat), P n c → Fr h₀ env.locals h (fun z => if (x :: stored).contains z then u z else m₀ z) → News h₀ env.locals h (Led c) → Q .next { s with heap := h, toks := tk }) :
    wpAny (model prog w) A (pyIter (.ref r)) (fun it s₂ => codeAny (model prog w) A (.forLoop (.Name x px) it body [] env) (fun r s' => match r with | .ok f => Q f s' | .error e => cameBackBy (model prog w) A env E e s') s₂) E s := by
  refine wpAny_pyIter_range hr hsmall ?_
  have hnew : h₀.get? s.heap.objs.size = none := next_is_new F
  have hlt0 : ∀ p ∈ Led c₀, p.1 < s.heap.objs.size := fun p hp => Heap.lt_size (N p hp).1
  have hLI : env.locals ≠ s.heap.objs.size := Nat.ne_of_lt F.ns.lt
  refine codeAny_forLoop
    (fun k s' => ∃ (i : Nat) (h' : Heap) (tk : Nat) (c : σ) (m' : Str → Option Value), s' = { s with heap := h', toks := tk } ∧ @LT.lt Nat _ 0 tk ∧ IsRangeIter h' s.heap.objs.size (a₀ + (i : Int)) ((n : Int) - (i : Int)) 1 ∧ Fr h₀ env.locals h' m' ∧ News h₀ env.locals h' (Led c) ∧ (∀ p ∈ Led c, p.1 ≠ s.heap.objs.size) ∧ P i c ∧ (∀ z, (x :: stored).contains z = false → m' z = m₀ z) ∧ i ≤ n ∧ k = n - i) ?_ (n - 0)
    ⟨0, _, s.toks, c₀, m₀, rfl, hs, (by rw [hn]; simpa using Heap.get?_push_size _ rfl), F.push _, (fun p hp => ⟨Heap.get?_push_of_some _ (N p hp).1, (N p hp).2⟩), (fun p hp => Nat.ne_of_lt (hlt0 p hp)), h0, (fun _ _ => rfl), Nat.zero_le _, rfl⟩
  rintro k s' ⟨i, h', tk, c, m', rfl, htk, hst, F', N', hI, hP, hm, hi, rfl⟩
  have carry : ∀ h₁ : Heap, (∀ b o, b ≠ s.heap.objs.size → h'.get? b = some o → h₁.get? b = some o) → Fr h₀ env.locals h₁ m' ∧ News h₀ env.locals h₁ (Led c) := fun h₁ hk₁ =>
    ⟨⟨F'.ns.at' fun o e => hk₁ _ o hLI e, fun b o e => hk₁ b o (fun hb => by rw [hb, hnew] at e; cases e) (F'.keep b o e), F'.above⟩, fun p hp => ⟨hk₁ _ _ (hI p hp) (N' p hp).1, (N' p hp).2⟩⟩
  by_cases hlt : i < n
  · refine wpAny_pyNext_range_item hst (by omega) fun h₁ hit₁ hs₁ => ?_
    obtain ⟨F₁, N₁⟩ := carry h₁ fun b o hb e => hs₁.extBut b o hb e
    refine wpAny_assign_Name (wpAny_storeName_local hx F₁.ns (fun h₂ hn₂ hs₂ => ?_) hp)
    have F₂ := F₁.set hn₂ hs₂
    have N₂ := N₁.set hs₂
    have hit₂ := (hs₂.2 _ hLI.symm).trans hit₁
    have NI : News h₀ env.locals h₂ ((s.heap.objs.size, itR (a₀ + (i : Int) + 1) ((n : Int) - (i : Int) - 1)) :: Led c) := fun p hp => by
      rcases List.mem_cons.mp hp with rfl | hp
      · exact ⟨hit₂, fun e => hLI e.symm, hnew⟩
      · exact N₂ p hp
    have em : (fun y => if y = x then some (Value.int (a₀ + (i : Int)) tk) else m' y) = (fun y => if y = x then some (Value.int (a₀ + (i : Int)) tk) else if stored.contains y then m' y else m₀ y) := by
      funext y
      by_cases hy : y = x
      · rw [if_pos hy, if_pos hy]
      · rw [if_neg hy, if_neg hy]
        by_cases hz : stored.contains y = true
        · rw [if_pos hz]
        · rw [if_neg hz]
          refine hm y ?_
          simp only [List.contains_cons, Bool.or_eq_false_iff, beq_eq_false_iff_ne, ne_eq]
          exact ⟨hy, by simpa using hz⟩
    rw [em] at F₂
    refine wpAny_tk ?_
    dsimp only
    refine wpAny_passesOwn hE (wpAny_mono (turn c i m' tk _ h₂ (tk + 1 + 1) _ hlt hP htk (Nat.lt_succ_of_lt (Nat.lt_succ_self _)) hlt0 hI F₂ NI) (fun f s₃ h₃ hle => ?_) fun _ _ e => e)
    obtain ⟨rfl, c', h₃', tk₃, m₃, news₃, rfl, F₃, N₃, hits, hLed, hne, hm₃, hP₃⟩ := h₃
    refine ⟨n - (i + 1), by omega, i + 1, h₃', tk₃, c', m₃, rfl, Nat.lt_of_lt_of_le (Nat.succ_pos _) hle, ?_, F₃, fun p hp => N₃ p (hLed p hp), fun p hp => hne p hp _ (.head _), hP₃, hm₃, hlt, rfl⟩
    have q := (N₃ _ (hits _ (.head _))).1
    have e1 : a₀ + ((i + 1 : Nat) : Int) = a₀ + (i : Int) + 1 := by push_cast; omega
    have e2 : (n : Int) - ((i + 1 : Nat) : Int) = (n : Int) - (i : Int) - 1 := by push_cast; omega
    rw [e1, e2]; exact q
  · have hin : i = n := by omega
    subst hin
    refine wpAny_pyNext_range_end hh hst (by omega) fun h₁ he₁ => wpAny_execs_nil ?_
    obtain ⟨F₁, N₁⟩ := carry h₁ fun b o hb e => he₁ b o hb e
    exact done c m' h₁ tk hP (en_fr hm F₁) N₁
end
end
-- part G1
section
open PySem PySem.W PyProof.Rows
set_option Elab.async false
set_option maxRecDepth 100000
def GoOk (cs : List Int) : Prop := ∀ p, 1 ≤ p → p < (cs.length + 3) / 4 → ∃ k, k ≤ 5 ∧ (digs (2 ^ 1) (digD p 1) p)[k]? = some 1 ∧ (∀ i, i < k → (digs (2 ^ 1) (digD p 1) p)[i]? ≠ some 1) ∧
  (cs.getD (4 * p) 0 - cs.getD p 0).natAbs < 2 ^ 32 ∧ (cs.getD (4 * p) 0 - cs.getD p 0).fmod (2 ^ ((3 * k + 7) / 2)) = 0 ∧ ((cs.getD (4 * p) 0 - cs.getD p 0).fdiv (2 ^ ((3 * k + 7) / 2))).fmod 2 ≠ 0
theorem pow_five : ∀ k : Nat, k ≤ 5 → (2 : Int) ^ ((3 * k + 7) / 2) ≠ 0 ∧ ((2 : Int) ^ ((3 * k + 7) / 2)).natAbs < 2 ^ 16 := by decide
theorem place_ok {n p : Nat} (h2 : n ≤ 64) (hp : p < (n + 3) / 4) : 4 * p < n ∧ p ≤ 16 := by omega
set_option maxHeartbeats 8000000 in
theorem goes_spec {w : World} {mean : ExcName → Option Value} {mg mb : Str → Option Value} {cs : List Int} {vc : List Value} {ec : Nat} {lc : Addr} {c : Nat} {t2 : Tok} {news : List (Addr × Obj)} {st1 st2 : Option (Addr × Obj)} :
    Ch w mean mg mb 158 (TS 30 32 4 st1 ++ (TS 37 47 4 st2 ++ ((lc, listOf vc.toArray ec) :: news))) 115 ((1 ≤ cs.length ∧ cs.length ≤ 64 ∧ c ≠ 34 ∧ IntsAre vc cs ∧ GoOk cs) ∧ IdmPre ((lc, listOf vc.toArray ec) :: news) st1 st2) [.ref lc, .str ⟨#[c]⟩ t2]
      (fun h₀ L m s Q => FigOut (lc, listOf vc.toArray ec) news h₀ L m s Q) := by
  unfold Ch
  w_top off
  k_fill
  intro dp un gd cn cs9 a9 ccd cl outer A₀ base h₀ L m s Q E hcA hcB B₀ F₀ X₀ N₀ T₀ hk hpre hd hu hret
  obtain ⟨ck, c2, c3, c4, c5⟩ := cs9
  obtain rfl : ck = .function := hk
  obtain ⟨⟨h1, h2, hc, hi, hgo⟩, hip⟩ := hpre
  have hlen := hi.length
  have N₁ : News h₀ L s.heap ((lc, listOf vc.toArray ec) :: (TS 30 32 4 st1 ++ (TS 37 47 4 st2 ++ news))) := fun p hp => N₀ p (by
    simp only [List.mem_cons, List.mem_append] at hp ⊢
    rcases hp with h | h | h | h <;> simp [h])
  clear N₀
  refine wpAny_call ?_
  k_enter
  iterate 2 (first | walk1 | (dsimp only; walk1))
  k_here
  with_unfolding_all refine' wpAny_For ?_
  k_whole
  iterate 20 (first | walk1 | (dsimp only; walk1))
  refine wpAny_tk ?_
  walk1
  intro hle0
  rename_i rgX lF lN _
  dsimp only at hle0
  have efd : ((cs.length : Int) + 3).fdiv 4 = (((cs.length + 3) / 4 : Nat) : Int) := by rw [Int.fdiv_eq_ediv_of_nonneg _ (by decide)]; omega
  rw [efd] at rgX
  have e2 : Builtin.Range.small 1 (((cs.length + 3) / 4 : Nat) : Int) 1 = true := small_one (by omega) (by omega) (by omega) (by omega)
  with_unfolding_all refine' range_tk (σ := Option (Addr × Obj) × Option (Addr × Obj)) (fun c => (lc, listOf vc.toArray ec) :: (TS 30 32 4 c.1 ++ (TS 37 47 4 c.2 ++ news))) [Str.ofString "noughts", Str.ofString "often", Str.ofString "quotient", Str.ofString "rest"] (fun _ c => IdmPre ((lc, listOf vc.toArray ec) :: news) c.1 c.2) (st1, st2) (by rfl) (by rfl) (by rfl) rgX e2 (rangeSize_nat _ _) lF lN (Nat.lt_of_lt_of_le (Nat.succ_pos _) hle0) hip (by passes_own) ?turn ?done
  case turn =>
    rintro ⟨sa, sb⟩ i u t it h tk I hin hP ht0 ht1 hlt0 hne F9 N9
    clear lF lN rgX
    dsimp only at hP F9 N9 hlt0 hne
    obtain ⟨g1, g2, g3, g4, g5, g6⟩ := hP
    (try k_fold)
    obtain ⟨p, hp⟩ : ∃ p, p = i + 1 := ⟨_, rfl⟩
    have hp1 : 1 ≤ p := by omega
    have hp2 : p < (cs.length + 3) / 4 := by omega
    rw [show (1 : Int) + (i : Int) = (p : Int) by omega] at F9
    obtain ⟨hp4, hp16⟩ := place_ok h2 hp2
    have hgp := hgo p hp1 hp2
    clear hp2 hin hp hle0 efd e2 hgo
    iterate 15 (first | walk1 | (dsimp only; walk1))
    have l30 : @LT.lt Nat _ 30 I := by
      cases st1 with
      | none => exact hlt0 _ (.tail _ (.head _))
      | some q => exact hlt0 _ (.tail _ (.head _))
    have l37 : @LT.lt Nat _ 37 I := by
      cases st2 with
      | none => exact hlt0 _ (.tail _ (List.mem_append_right _ (.head _)))
      | some q => exact hlt0 _ (.tail _ (List.mem_append_right _ (.head _)))
    have lcI : lc ≠ I := hne _ (.head _)
    have h37sb : ∀ p ∈ TS 37 47 4 sb, p.1 ≠ 30 := by
      intro p hp
      cases sb with
      | none => rcases List.mem_cons.mp hp with rfl | hp
                · exact neN (by decide)
                · exact absurd hp List.not_mem_nil
      | some q => rcases List.mem_cons.mp hp with rfl | hp
                  · show (37 : Addr) ≠ 30; exact neN (by decide)
                  · rcases List.mem_cons.mp hp with rfl | hp
                    · exact g6 _ rfl
                    · exact absurd hp List.not_mem_nil
    have Nd2 : News _ _ _ (TS 30 32 4 sa ++ ((I, it) :: (lc, listOf vc.toArray ec) :: (TS 37 47 4 sb ++ news))) := fun p hp => N9 p (by
      simp only [List.mem_cons, List.mem_append] at hp ⊢
      rcases hp with h | h | h | h | h <;> simp [h])
    have n30 : ∀ p ∈ (I, it) :: (lc, listOf vc.toArray ec) :: (TS 37 47 4 sb ++ news), p.1 ≠ 30 := by
      intro p hp
      simp only [List.mem_cons, List.mem_append] at hp
      rcases hp with rfl | rfl | hp | hp
      · exact Nat.ne_of_gt l30
      · exact g1 _ (.head _)
      · exact h37sb p hp
      · exact g1 p (.tail _ hp)
    k_dflt (refine' digits_tk (st := sa) (D := digD p 1) (n := 1) hcA hcB (by k_asm) (by k_asm) (by k_asm) Nd2 (by k_asm) rfl (digPre_at (by omega) (by omega) (by omega) n30 g3) (by ktr_room) (by ktr_units) ⟨⟨ht0, Nat.lt_succ_of_lt ht1⟩, ?_⟩)
    intro lA vsA enA q1 h2' tk2 htl hle2 hiA hq1 F2 N2 lA1 hst1 lA30 hqA
    (try dsimp only)
    clear Nd2 N9 F9
    iterate 4 (first | walk1 | (dsimp only; walk1))
    obtain ⟨k, hk5, hk1, hk0, hdb, hdm, hdo⟩ := hgp
    have hD64 : (digs (2 ^ 1) (digD p 1) p).length ≤ 64 := by
      rw [digs_len]
      exact (digPre_at (n := 1) (a := p) (by omega) (by omega) (by omega) n30 g3).2.2.2.1
    k_dflt (refine' index_spec (k := k) (ns := digs (2 ^ 1) (digD p 1) p) (by k_asm) (by k_asm) (by k_asm) N2 (by k_asm) rfl ⟨htl, hiA, hD64, hk1, hk0⟩ (by ktr_room) (by ktr_units) ?_)
    intro t3 h3' tk3 F3 N3
    (try dsimp only)
    clear N2 F2
    dsimp only [TS, List.cons_append, List.nil_append] at N3
    iterate 19 (first | walk1 | (dsimp only; walk1))
    rw [show (3 * (k : Int) + 7) = ((3 * k + 7 : Nat) : Int) by omega]
    k_dflt (refine' halved_spec (by k_asm) (by k_asm) (by k_asm) (by k_asm) (by k_asm) rfl ⟨by omega, by omega, hc⟩ (by ktr_room) (by ktr_units) ?_)
    intro t4 h4' tk4 F4 N4
    (try dsimp only)
    iterate 26 (first | walk1 | (dsimp only; walk1))
    rw [show (4 * (p : Int)).toNat = 4 * p by omega, Int.toNat_natCast]
    walk1
    iterate 7 (first | walk1 | (dsimp only; walk1))
    walk1
    rename_i kF2 kN2 kT2 kX2
    iterate 7 (first | walk1 | (dsimp only; walk1))
    rw [Int.toNat_natCast]
    have N5 : News _ _ _ (TS 30 32 4 (some q1) ++ (TS 37 47 4 sb ++ ((lA, listOf vsA.toArray enA) :: (I, it) :: (lc, listOf vc.toArray ec) :: news))) := fun p hp => kN2 p (by
      simp only [TS, List.cons_append, List.nil_append, List.mem_cons, List.mem_append] at hp ⊢
      rcases hp with h | h | h | h | h | h | h <;> simp [h])
    have lAA : ∀ p ∈ TS 37 47 4 sb ++ ((lc, listOf vc.toArray ec) :: news), p.1 < lA := fun p hp => lA1 p (by
      simp only [List.mem_cons, List.mem_append] at hp ⊢
      rcases hp with h | h | h <;> simp [h])
    have l37A : @LT.lt Nat _ 37 lA := Nat.lt_trans l37 (lA1 _ (.head _))
    have hq137 : q1.1 ≠ 37 := by
      rcases hst1 with e | e
      · exact g5 q1 e
      · exact Nat.ne_of_gt (Nat.lt_trans l37 (e _ (.head _)))
    have hq1I : q1.1 ≠ I := by
      rcases hst1 with e | e
      · exact hne q1 (by rw [e]; exact .tail _ (.tail _ (.head _)))
      · exact Nat.ne_of_gt (e _ (.head _))
    have hip2 : IdmPre ((lA, listOf vsA.toArray enA) :: (I, it) :: (lc, listOf vc.toArray ec) :: news) (some q1) sb := by
      refine ⟨?_, ?_, hq1, g4, ?_, g6⟩
      · intro p hp
        simp only [List.mem_cons] at hp
        rcases hp with rfl | rfl | hp
        · exact Nat.ne_of_gt lA30
        · exact Nat.ne_of_gt l30
        · exact g1 p (List.mem_cons.mpr hp)
      · intro p hp
        simp only [List.mem_cons] at hp
        rcases hp with rfl | rfl | hp
        · exact Nat.ne_of_gt l37A
        · exact Nat.ne_of_gt l37
        · exact g2 p (List.mem_cons.mpr hp)
      · intro q e
        cases e
        exact hq137
    have hdv0 := pow_five k hk5
    k_dflt (refine' idm_spec (st1 := some q1) (st2 := sb) hcA hcB (by k_asm) (by k_asm) (by k_asm) N5 (by k_asm) rfl ⟨⟨hdv0.1, hdv0.2, hdb⟩, hip2⟩ (by ktr_room) (by ktr_units) ?_)
    intro l u1 u2 qa qb h5' tk5 ka kb F5 N5b lt5 n37a n30b sA sB
    (try dsimp only)
    rw [hdm] at N5b
    iterate 31 (first | walk1 | (dsimp only; walk1))
    · exact absurd (by assumption) hdo
    iterate 5 (first | walk1 | (dsimp only; walk1))
    rename Fr _ _ _ _ => Fz
    rename News _ _ _ _ => Nz
    have hqaI : qa.1 ≠ I := by
      rcases sA with e | e
      · cases e; exact hq1I
      · exact Nat.ne_of_gt (e _ (.tail _ (.head _)))
    have hqbI : qb.1 ≠ I := by
      rcases sB with e | e
      · exact hne qb (by rw [e]; exact .tail _ (List.mem_append_right _ (.tail _ (.head _))))
      · exact Nat.ne_of_gt (e _ (.tail _ (.head _)))
    have hne2 : ∀ p ∈ (lc, listOf vc.toArray ec) :: (TS 30 32 4 (some qa) ++ (TS 37 47 4 (some qb) ++ news)), p.1 ≠ I := by
      intro p hp
      simp only [TS, List.cons_append, List.nil_append, List.mem_cons] at hp
      rcases hp with rfl | rfl | rfl | rfl | rfl | hp
      · exact lcI
      · exact Nat.ne_of_lt l30
      · exact hqaI
      · exact Nat.ne_of_lt l37
      · exact hqbI
      · exact hne p (.tail _ (List.mem_append_right _ (List.mem_append_right _ hp)))
    refine EnumTurn.mk (some qa, some qb) Fz Nz ?_ ?_ ?_ ?_ ⟨g1, g2, ka, kb, ?_, ?_⟩
    · intro p hp
      simp only [List.mem_cons, List.mem_append] at hp ⊢
      rcases hp with h | h
      · simp [h]
      · exact absurd h List.not_mem_nil
    · intro p hp
      simp only [List.mem_cons, List.mem_append] at hp ⊢
      rcases hp with h | h | h | h <;> simp [h]
    · intro p hp q hq
      rcases List.mem_cons.mp hq with rfl | hq
      · exact hne2 p hp
      · exact absurd hq List.not_mem_nil
    · intro z h3
      simp only [List.contains_cons, List.contains_nil, Bool.or_false, Bool.or_eq_false_iff, beq_eq_false_iff_ne, ne_eq] at h3
      simp [h3]
    · intro q e; cases e; exact n37a
    · intro q e; cases e; exact n30b
  case done =>
    rintro ⟨sa, sb⟩ u h tk hP F9 N9
    clear lF lN rgX
    dsimp only at hP F9 N9
    (try k_fold)
    iterate 3 (first | walk1 | (dsimp only; walk1))
    walk1
    rename_i kF kN _ _
    refine hret sa sb _ _ hP (by assumption) (fun p hp => kN p ?_)
    simp only [List.mem_cons, List.mem_append] at hp ⊢
    rcases hp with h | h | h | h <;> simp [h]
end
end Mine
-- part C1
section
open PySem PySem.W PyProof.Rows PySem.Spec PySem.Calls
open PyProof.Rows.LCg
set_option Elab.async false
set_option maxRecDepth 100000
namespace Mine
section
variable {prog : Program} {w : World} {A : Around} {E : Value → Shared → Prop} {s : Shared} {h₀ : Heap} {m : Str → Option Value} {env : Env}
/-- what an enumerate's comprehension wants of its source -/
def EnumSrc (prog : Program) (w : World) (A : Around) (h₀ : Heap) (m : Str → Option Value) (env : Env) (elt : PySem.Expr) (x x₂ y : Str) (scope : Scope) (cl : List (Str × Addr)) (Q : Flow → Shared → Prop) (xv : Value) (s₁ : Shared) : Prop :=
  ∃ (e it l : Addr) (vs : List Value) (n : Nat) (news : List (Addr × Obj)) (f : Nat → Int), xv = .ref e ∧ IsEnum s₁.heap e it 0 .none ∧ s₁.heap.IsListIter it l 0 ∧ e ≠ it ∧ l ≠ e ∧ l ≠ it ∧ (l, listOf vs.toArray n) ∈ news ∧
    Fr h₀ env.locals s₁.heap m ∧ News h₀ env.locals s₁.heap news ∧ h₀.get? e = none ∧ h₀.get? it = none ∧ env.locals ≠ e ∧ env.locals ≠ it ∧ (∀ p ∈ news, p.1 ≠ e ∧ p.1 ≠ it) ∧ vs.length ≤ sizeLine ∧
    (∀ (s₂ : Shared) (i : Nat) (v : Value) (ys : List Value) (C D : Addr) (oe oi oC : Obj) (m₂ : Str → Option Value) (t : Tok) (h : Heap) (tk : Nat) (E' : Value → Shared → Prop), vs[i]? = some v → NsObj oC m₂ → m₂ x = some (.int (i : Int) t) → m₂ x₂ = some v →
      Fr h₀ env.locals h m → News h₀ env.locals h ((e, oe) :: (it, oi) :: (C, oC) :: (D, lst ys) :: news) →
      wpAny (model prog w) A (eval elt (compEnvC scope cl C env)) (fun yv s₃ => ∃ (h' : Heap) (tk' : Nat) (t' : Tok), yv = .int (f i) t' ∧ s₃ = { s₂ with heap := h', toks := tk' } ∧ Fr h₀ env.locals h' m ∧ News h₀ env.locals h' ((e, oe) :: (it, oi) :: (C, oC) :: (D, lst ys) :: news)) E' { s₂ with heap := h, toks := tk }) ∧
    (∀ (D : Addr) (ys : List Value) (h' : Heap) (tk : Nat), IntsAre ys ((List.range vs.length).map f) → Fr h₀ env.locals h' (fun z => if z = y then some (.ref D) else m z) → News h₀ env.locals h' ((D, lst ys) :: news) → (∀ p ∈ news, p.1 < D) → Q .next { s₁ with heap := h', toks := tk })

theorem comp_enum {elt iter : PySem.Expr} {x x₂ y : Str} {px px₂ tp py : Pos} {kk : Nat} {scope : Scope} {cl : List (Str × Addr)} {pos spos : Pos} {Q : Flow → Shared → Prop} (_F₀ : Fr h₀ env.locals s.heap m) (hh : A.handled = none)
    (hsw : swapsWith (.ListComp elt [⟨.Tuple [.Name x px, .Name x₂ px₂] kk tp, iter, [], 0⟩] scope pos) (some (.Name y py)) spos.line env = pure true)
    (hclos : closureFor scope env = pure cl) (hcell : ∀ z ∈ scope.names, z.2 ≠ .cell) (hkind : scope.kind = .function)
    (hnames : ∀ z ∈ scope.names, z.2 = .local → scope.names.lookup z.1 = some .local) (hx : scope.names.lookup x = some .local) (hx₂ : scope.names.lookup x₂ = some .local) (hxx : x ≠ x₂)
    (hy : env.kindOf y = some .local) (hp : (env.scope.kind == .class || (env.scope.kind == .module && env.locals != env.globals)) = false)
    (h : wpAny (model prog w) A (eval iter env) (EnumSrc prog w A h₀ m env elt x x₂ y scope cl Q) E s)
    (hs : ∀ x, foldedSetIterable iter env x = pure x := by intro _; rfl) :
    wpAny (model prog w) A (exec (.Assign [.Name y py] (.ListComp elt [⟨.Tuple [.Name x px, .Name x₂ px₂] kk tp, iter, [], 0⟩] scope pos) spos) env) Q E s := by
  rw [exec_Assign_Name_used _ _ _ _ hsw]
  refine wpAny_bind (wpAny_standAt (wpAny_bind ?_))
  show wpAny _ A (do let _ ← comprehension (.ListComp elt [⟨.Tuple [.Name x px, .Name x₂ px₂] kk tp, iter, [], 0⟩] scope pos) scope env _ (newList []) false (eval iter env) (some (assign (.Name y py) env))) _ _ s
  refine wpAny_bind (wpAny_mono (wpAny_comprehension_free (use := some (assign (.Name y py) env)) (Q := fun _ s' => Q .next s') rfl hs hclos hkind hnames
    (wpAny_mono h (fun xv s₁ h₁ => ?_) fun _ _ e => e)) (fun _ s' hq => wpAny_pure (wpAny_pure hq)) fun _ _ e => e)
  obtain ⟨e, it, l, vs, n, news, f, rfl, hEn, hIt, hei, hle, hli, hm, F, N, he₀, hi₀, hLe, hLi, off, hsz, turn, done⟩ := h₁
  refine wpAny_pyIter_enum hEn ?_
  have heK : e < s₁.heap.objs.size := Heap.lt_size hEn
  have hiK : it < s₁.heap.objs.size := by obtain ⟨_, q, _⟩ := hIt; exact Heap.lt_size q
  have hLK : env.locals < s₁.heap.objs.size := F.ns.lt
  have hlK : l < s₁.heap.objs.size := Heap.lt_size (N _ hm).1
  have hnK : ∀ p ∈ news, p.1 < s₁.heap.objs.size := fun p hp => Heap.lt_size (N p hp).1
  have hls : s₁.heap.IsList l vs.toArray := ⟨_, (N _ hm).1, rfl, n, rfl⟩
  have fresh₀ : ∀ a, s₁.heap.objs.size ≤ a → h₀.get? a = none := fun a ha => by
    cases q : h₀.get? a with
    | none => rfl
    | some o' => exact absurd (Heap.lt_size (F.keep a o' q)) (Nat.not_lt.mpr ha)
  have W := KTurns.ofWalksU (prog := prog) (w := w) (A := A) (elts := [.Name x px, .Name x₂ px₂]) (k := kk) (pos := tp) (WalksT.enumerate hh e it l hei hle hli vs.toArray).toU
  refine wpAny_newObj_type (wpAny_newFunctionEnv hcell (by intro y hy; simp at hy) (fun h₁ hns₁ hsb₁ => ?_) hkind)
  dsimp only at hns₁ hsb₁ ⊢
  generalize hH2 : s₁.heap.push { cls := .type "list", dict := none, data := .seq ([] : List Value).toArray } = H2 at hns₁ hsb₁ ⊢
  have hC : H2.objs.size = s₁.heap.objs.size + 1 := by rw [← hH2, Heap.size_push]
  obtain ⟨C, hCe⟩ : ∃ C, C = H2.objs.size := ⟨_, rfl⟩
  obtain ⟨D, hDe⟩ : ∃ D, D = s₁.heap.objs.size := ⟨_, rfl⟩
  have hDC : D ≠ C := by rw [hDe, hCe, hC]; exact Nat.ne_of_lt (Nat.lt_succ_self _)
  have below : ∀ b, b < s₁.heap.objs.size → b ≠ C ∧ b ≠ D := fun b hb => ⟨by rw [hCe, hC]; exact Nat.ne_of_lt (Nat.lt_succ_of_lt hb), by rw [hDe]; exact Nat.ne_of_lt hb⟩
  rw [← hCe] at hns₁ hsb₁
  rw [← hCe, ← hDe]
  have hC₀ : h₀.get? C = none := fresh₀ _ (by rw [hCe, hC]; exact Nat.le_succ _)
  have hD₀ : h₀.get? D = none := fresh₀ _ (by rw [hDe]; exact Nat.le_refl _)
  have old : ∀ b o, s₁.heap.get? b = some o → h₁.get? b = some o := fun b o q => hsb₁.extBut b o (below b (Heap.lt_size q)).1 (Heap.get?_push_of_some _ (hH2 ▸ Heap.get?_push_of_some _ q))
  have hacc : h₁.get? D = some (lst []) := hsb₁.extBut _ _ hDC (Heap.get?_push_of_some _ (by rw [← hH2, hDe]; exact Heap.get?_push_size _ rfl))
  have hst₀ : (∃ old, IsEnum h₁ e it (0 : Nat) old) ∧ h₁.IsListIter it l 0 ∧ h₁.IsList l vs.toArray := ⟨⟨_, old _ _ hEn⟩, hIt.at fun o q => old _ o q, hls.at fun o q => old _ o q⟩
  have eC := below e heK
  have iC := below it hiK
  have lC := below l hlK
  have LC := below _ hLK
  have nC : ∀ p ∈ news, p.1 ≠ C ∧ p.1 ≠ D := fun p hp => below _ (hnK p hp)
  have loop : codeAny (model prog w) A (.compLoop (.ListComp elt [⟨.Tuple [.Name x px, .Name x₂ px₂] kk tp, iter, [], 0⟩] scope pos) 0 (.ref e) (.ref D) (compEnvC scope cl C env))
      (compPost (model prog w) A E (some (assign (PySem.Expr.Name y py) env)) (fun _ s' => Q .next s') (.ref D) C) { s₁ with heap := h₁, toks := s₁.toks + ([] : List (Str × Value)).length } := by
    refine LCp.codeAny_compLoop_pair
      (fun k s' => ∃ h' tk i ys m', s' = { s₁ with heap := h', toks := tk } ∧ i ≤ vs.length ∧ k = vs.length + 1 - i ∧ IntsAre ys ((List.range i).map f) ∧ ((∃ old, IsEnum h' e it (i : Nat) old) ∧ h'.IsListIter it l i ∧ h'.IsList l vs.toArray) ∧ Fr h₀ env.locals h' m ∧ h'.Ns C m' ∧ News h₀ env.locals h' ((D, lst ys) :: news)) ?_ (vs.length + 1)
      ⟨h₁, _, 0, [], _, rfl, Nat.zero_le _, rfl, .nil, hst₀, F.keeps old, hns₁, fun p hp => ?_⟩
    · rintro k s' ⟨h', tk, i, ys, m', rfl, hi, rfl, hys, hst', F', hn', N'⟩
      by_cases hlt : i < vs.length
      · refine W.item i _ _ _ (by simpa using hlt) hst' fun v h₂ tk₂ hMd hk₂ => ?_
        dsimp only
        refine W.go i v _ _ _ hMd fun h₃ hP hst₃ hk₃ => ?_
        dsimp only at hk₂ hk₃ ⊢
        obtain ⟨T, vals, rfl, ⟨tt, xx, hxx9, rfl⟩, hT⟩ := hP
        have hk3 : ∀ b o, b ≠ e → b ≠ it → h'.get? b = some o → h₃.get? b = some o := fun b o q1 q2 q => hk₃ b o (by simp [q1, q2]) (hk₂ b o (by simp [q1, q2]) q)
        refine assign_Tuple_tuple hh hT rfl rfl fun h₅ he => ?_
        have he' : ∀ b o, h₃.get? b = some o → h₅.get? b = some o := fun b o q => he b o (Nat.ne_of_lt (Heap.lt_size q)) q
        have hn₅ : h₅.Ns C m' := (hn'.at' fun o q => hk3 _ o (Ne.symm eC.1) (Ne.symm iC.1) q).at' fun o q => he' _ o q
        refine assignInOrder_cons (wpAny_assign_Name (wpAny_storeName_local (lookup_relabel_local hx) hn₅ (fun h₆ hn₆ hs₆ => ?_) (by simp [compEnvC, relabel, hkind])))
        refine assignInOrder_cons (wpAny_assign_Name (wpAny_storeName_local (lookup_relabel_local hx₂) hn₆ (fun h₇ hn₇ hs₇ => ?_) (by simp [compEnvC, relabel, hkind])))
        refine assignInOrder_nil ?_
        have hk7 : ∀ b o, b ≠ C → h₃.get? b = some o → h₇.get? b = some o := fun b o hb q => hs₇.extBut b o hb (hs₆.extBut b o hb (he' b o q))
        have hst₇ : (∃ old, IsEnum h₇ e it (↑(i + 1)) old) ∧ h₇.IsListIter it l (i + 1) ∧ h₇.IsList l vs.toArray := ⟨⟨_, hk7 _ _ eC.1 hst₃.1.choose_spec⟩, hst₃.2.1.at fun o q => hk7 _ o iC.1 q, hst₃.2.2.at fun o q => hk7 _ o lC.1 q⟩
        obtain ⟨oe, hoe⟩ : ∃ oe, h₇.get? e = some oe := ⟨_, hst₇.1.choose_spec⟩
        obtain ⟨oi, hoi⟩ : ∃ oi, h₇.get? it = some oi := by obtain ⟨_, q, _⟩ := hst₇.2.1; exact ⟨_, q⟩
        obtain ⟨oC, heC, hoC⟩ := ns_obj hn₇
        have old7 : ∀ b o, b ≠ C → b ≠ e → b ≠ it → h'.get? b = some o → h₇.get? b = some o := fun b o q1 q2 q3 q => hk7 b o q1 (hk3 b o q2 q3 q)
        have F₇ : Fr h₀ env.locals h₇ m := ⟨F'.ns.at' fun o q => old7 _ o LC.1 hLe hLi q, fun b o q => old7 b o (fun z => by rw [z, hC₀] at q; cases q) (fun z => by rw [z, he₀] at q; cases q) (fun z => by rw [z, hi₀] at q; cases q) (F'.keep b o q), F'.above⟩
        have N₇ : News h₀ env.locals h₇ ((e, oe) :: (it, oi) :: (C, oC) :: (D, lst ys) :: news) := fun p hp => by
          rcases List.mem_cons.mp hp with rfl | hp
          · exact ⟨hoe, Ne.symm hLe, he₀⟩
          rcases List.mem_cons.mp hp with rfl | hp
          · exact ⟨hoi, Ne.symm hLi, hi₀⟩
          rcases List.mem_cons.mp hp with rfl | hp
          · exact ⟨heC, Ne.symm LC.1, hC₀⟩
          have z := N' p hp
          refine ⟨old7 _ _ ?_ ?_ ?_ z.1, z.2⟩
          · rcases List.mem_cons.mp hp with rfl | hp
            · exact hDC
            · exact (nC p hp).1
          · rcases List.mem_cons.mp hp with rfl | hp
            · exact Ne.symm eC.2
            · exact (off p hp).1
          · rcases List.mem_cons.mp hp with rfl | hp
            · exact Ne.symm iC.2
            · exact (off p hp).2
        refine wpAny_mono (turn { s₁ with heap := h₇ } i xx ys C D oe oi oC _ tt h₇ _ _ (by simpa using hxx9) hoC (by simp [hxx]) (by simp) F₇ N₇) (fun yv s₄ h₄ => ?_) fun _ _ q => q
        obtain ⟨h₈, tk₈, t₈, rfl, rfl, F₈, N₈⟩ := h₄
        have zD := (N₈ (D, lst ys) (.tail _ (.tail _ (.tail _ (.head _))))).1
        have zC := (N₈ (C, oC) (.tail _ (.tail _ (.head _)))).1
        have ze := (N₈ (e, oe) (.head _)).1
        have zi := (N₈ (it, oi) (.tail _ (.head _))).1
        have N₈' : News h₀ env.locals h₈ ((D, lst ys) :: news) := fun p hp => N₈ p (.tail _ (.tail _ (.tail _ hp)))
        have hyl : ys.length = i := by rw [hys.length]; simp
        refine append_at (hsz := by show ys.toArray.size ≤ sizeLine; rw [List.size_toArray, hyl]; exact Nat.le_trans hi hsz) zD fun h₉ hs₉ hD₉ => ?_
        have hse : h₉.get? e = h₇.get? e := (hs₉.2 _ eC.2).trans (ze.trans hoe.symm)
        have hsi : h₉.get? it = h₇.get? it := (hs₉.2 _ iC.2).trans (zi.trans hoi.symm)
        have hsl : h₉.IsList l vs.toArray := ⟨_, (hs₉.2 _ lC.2).trans (N₈' _ (.tail _ hm)).1, rfl, n, rfl⟩
        refine ⟨vs.length + 1 - (i + 1), by omega, h₉, tk₈, i + 1, ys ++ [.int (f i) t₈], _, rfl, hlt, rfl, ?_, ⟨⟨_, hse.trans hst₇.1.choose_spec⟩, hst₇.2.1.at fun o q => hsi.trans q, hsl⟩, F₈.change hs₉ (Ne.symm LC.2) hD₀, (hoC.ns zC).sameBut hs₉ (Ne.symm hDC), fun p hp => ?_⟩
        · rw [List.range_succ, List.map_append]
          exact hys.append (.cons _ _ .nil)
        · rcases List.mem_cons.mp hp with rfl | hp
          · exact ⟨hD₉.trans (congrArg some (lst_snoc ys _)), Ne.symm LC.2, hD₀⟩
          · exact ⟨(hs₉.2 _ (nC p hp).2).trans (N₈' p (.tail _ hp)).1, (N₈' p (.tail _ hp)).2⟩
      · obtain rfl : i = vs.length := Nat.le_antisymm hi (Nat.not_lt.mp hlt)
        refine W.done _ _ _ (by simpa using hst') fun h₂ tk₂ hk₂ => ?_
        dsimp only at hk₂ ⊢
        have hk3 : ∀ b o, b ≠ e → b ≠ it → h'.get? b = some o → h₂.get? b = some o := fun b o q1 q2 q => hk₂ b o (by simp [q1, q2]) q
        have F₂ : Fr h₀ env.locals h₂ m := ⟨F'.ns.at' fun o q => hk3 _ o hLe hLi q, fun b o q => hk3 b o (fun z => by rw [z, he₀] at q; cases q) (fun z => by rw [z, hi₀] at q; cases q) (F'.keep b o q), F'.above⟩
        have hn₂ : h₂.Ns C m' := hn'.at' fun o q => hk3 _ o (Ne.symm eC.1) (Ne.symm iC.1) q
        show wpAny _ A (assign (.Name y py) env (.ref D)) _ _ _
        refine wpAny_assign_Name (wpAny_storeName_local hy F₂.ns (fun h₄ hn₄ hs₄ => ?_) hp)
        have hL₀ : h₀.get? env.locals = none := Heap.get?_none_of_le F'.above
        have F₄ : Fr h₀ env.locals h₄ (fun z => if z = y then some (.ref D) else m z) := ⟨hn₄, fun b o q => hs₄.extBut b o (fun z => by rw [z, hL₀] at q; cases q) (F₂.keep b o q), F'.above⟩
        refine ⟨m', hn₂.sameBut hs₄ (Ne.symm LC.1), fun h'' hs'' => done D ys h'' _ hys (F₄.change hs'' (Ne.symm LC.1) hC₀) (fun p hp => ?_) (fun p hp => hDe ▸ hnK p hp)⟩
        have z := N' p hp
        have z2 : p.1 ≠ e ∧ p.1 ≠ it := by
          rcases List.mem_cons.mp hp with rfl | hp
          · exact ⟨Ne.symm eC.2, Ne.symm iC.2⟩
          · exact off p hp
        have z3 : h₄.get? p.1 = some p.2 := hs₄.extBut _ _ z.2.1 (hk3 _ _ z2.1 z2.2 z.1)
        refine ⟨hs''.extBut _ _ ?_ z3, z.2⟩
        rcases List.mem_cons.mp hp with rfl | hp
        · exact hDC
        · exact (nC p hp).1
    · rcases List.mem_cons.mp hp with rfl | hp
      · exact ⟨hacc, Ne.symm LC.2, hD₀⟩
      · exact ⟨old _ _ (N p hp).1, (N p hp).2⟩
  exact codeAny_compStart_list loop (wpAny_pyIter_enum (old _ _ hEn) loop)
end
end Mine
end
-- part C2
section
open PySem PySem.W PyProof.Rows PySem.Spec PySem.Calls
open PyProof.Rows.LCg
set_option Elab.async false
set_option maxRecDepth 100000
namespace Mine
section
variable {prog : Program} {w : World} {A : Around} {E : Value → Shared → Prop} {s : Shared} {h₀ : Heap} {m : Str → Option Value} {env : Env}
theorem enum_src {elt : PySem.Expr} {x x₂ y : Str} {scope : Scope} {cl : List (Str × Addr)} {Q : Flow → Shared → Prop} {l : Addr} {vs : List Value} {n : Nat} {news : List (Addr × Obj)} (f : Nat → Int)
    (F : Fr h₀ env.locals s.heap m) (N : News h₀ env.locals s.heap news) (hm : (l, listOf vs.toArray n) ∈ news) (hsz : vs.length ≤ sizeLine)
    (turn : ∀ (s₂ : Shared) (i : Nat) (v : Value) (ys : List Value) (C D : Addr) (e it : Addr) (oe oi oC : Obj) (m₂ : Str → Option Value) (t : Tok) (h : Heap) (tk : Nat) (E' : Value → Shared → Prop), vs[i]? = some v → NsObj oC m₂ → m₂ x = some (.int (i : Int) t) → m₂ x₂ = some v →
      Fr h₀ env.locals h m → News h₀ env.locals h ((e, oe) :: (it, oi) :: (C, oC) :: (D, lst ys) :: news) →
      wpAny (model prog w) A (eval elt (compEnvC scope cl C env)) (fun yv s₃ => ∃ (h' : Heap) (tk' : Nat) (t' : Tok), yv = .int (f i) t' ∧ s₃ = { s₂ with heap := h', toks := tk' } ∧ Fr h₀ env.locals h' m ∧ News h₀ env.locals h' ((e, oe) :: (it, oi) :: (C, oC) :: (D, lst ys) :: news)) E' { s₂ with heap := h, toks := tk })
    (done : ∀ (D : Addr) (ys : List Value) (h' : Heap) (tk : Nat), IntsAre ys ((List.range vs.length).map f) → Fr h₀ env.locals h' (fun z => if z = y then some (.ref D) else m z) → News h₀ env.locals h' ((D, lst ys) :: news) → (∀ p ∈ news, p.1 < D) → Q .next { s with heap := h', toks := tk }) :
    wpAny (model prog w) A (call (.type "enumerate") [.ref l]) (EnumSrc prog w A h₀ m env elt x x₂ y scope cl Q) E s := by
  have hax := N _ hm
  have hl : s.heap.IsList l vs.toArray := ⟨_, hax.1, rfl, n, rfl⟩
  have hlt : l < s.heap.objs.size := Heap.lt_size hax.1
  have hLs : env.locals < s.heap.objs.size := F.ns.lt
  refine call_enumerate_list hl fun h' hEn hI hsz' hk => ?_
  refine ⟨s.heap.objs.size + 1, s.heap.objs.size, l, vs, n, news, f, rfl, hEn, hI, Nat.succ_ne_self _, ktu_ne 1 hlt, Nat.ne_of_lt hlt, hm, F.keeps hk, N.grown hk, ktu_new F (Nat.le_add_right _ _), ktu_new F (Nat.le_refl _), ktu_ne 1 hLs, Nat.ne_of_lt hLs,
    fun p hp => ⟨ktu_ne 1 (Heap.lt_size (N p hp).1), Nat.ne_of_lt (Heap.lt_size (N p hp).1)⟩, hsz, fun s₂ i v ys C D oe oi oC m₂ t h tk E' => turn s₂ i v ys C D _ _ oe oi oC m₂ t h tk E', done⟩
end
end Mine
end
-- part C3
section
open PySem PySem.W PyProof.Rows
set_option Elab.async false
set_option maxRecDepth 100000
namespace Mine
def StOk (s : Int) : Prop := s = 1 ∨ s = -1 ∨ s = 3 ∨ s = -3 ∨ s = 5 ∨ s = -5 ∨ s = 7 ∨ s = -7
theorem st_ok (d : Int) : StOk ((1 + 2 * d.fmod 4) * (1 - 2 * (d.fdiv 4).fmod 2)) := by
  have h1 : d.fmod 4 = 0 ∨ d.fmod 4 = 1 ∨ d.fmod 4 = 2 ∨ d.fmod 4 = 3 := by
    rw [Int.fmod_eq_emod_of_nonneg _ (by decide)]; omega
  have h2 : (d.fdiv 4).fmod 2 = 0 ∨ (d.fdiv 4).fmod 2 = 1 := by
    rw [Int.fmod_eq_emod_of_nonneg _ (by decide)]; omega
  unfold StOk
  rcases h1 with e | e | e | e <;> rcases h2 with f | f <;> rw [e, f] <;> decide
theorem mod_ok (x : Int) (a b : Nat) (hb : 0 < b) : ∃ n : Nat, (a : Int) + x.fmod (b : Int) = (n : Int) ∧ a ≤ n ∧ n < a + b := by
  have h1 : 0 ≤ x.fmod (b : Int) := Int.fmod_nonneg_of_pos _ (by omega)
  have h2 : x.fmod (b : Int) < (b : Int) := Int.fmod_lt_of_pos _ (by omega)
  exact ⟨a + (x.fmod (b : Int)).toNat, by omega, by omega, by omega⟩
theorem size_ok (x : Int) : ∃ n : Nat, 13 + x.fmod 5 = (n : Int) ∧ 13 ≤ n ∧ n ≤ 17 := by
  obtain ⟨n, h1, h2, h3⟩ := mod_ok x 13 5 (by decide)
  exact ⟨n, h1, h2, Nat.le_of_lt_succ h3⟩
theorem times_ok (x : Int) : ∃ n : Nat, 1 + x.fmod 3 = (n : Int) ∧ 1 ≤ n ∧ n ≤ 3 := by
  obtain ⟨n, h1, h2, h3⟩ := mod_ok x 1 3 (by decide)
  exact ⟨n, h1, h2, Nat.le_of_lt_succ h3⟩
theorem sign_ok (x : Int) : ∃ n : Nat, 35 + x.fmod 50000 = (n : Int) ∧ 35 ≤ n ∧ n ≤ 50034 := by
  obtain ⟨n, h1, h2, h3⟩ := mod_ok x 35 50000 (by decide)
  exact ⟨n, h1, h2, Nat.le_of_lt_succ h3⟩
theorem cell_as {o : Obj} {a b : Int} {t : Tok} (h : o.data = .cell (some (.int a t))) (e : b = a) : ∃ t', o.data = .cell (some (.int b t')) := ⟨t, by subst e; exact h⟩
theorem pow_ok {times : Nat} (h1 : 1 ≤ times) (h2 : times ≤ 3) : (2 : Int) ^ ((times : Int)).toNat = ((2 ^ times : Nat) : Int) ∧ 2 ≤ 2 ^ times ∧ 2 ^ times ≤ 8 := by
  have : times = 1 ∨ times = 2 ∨ times = 3 := by omega
  rcases this with rfl | rfl | rfl <;> decide
theorem top_ok {times size : Nat} (h1 : 1 ≤ times) (h2 : times ≤ 3) (s1 : 13 ≤ size) (s2 : size ≤ 17) : (2 : Int) ^ ((times : Int)).toNat * ((size : Int) - 1) = ((2 ^ times * (size - 1) : Nat) : Int) ∧ 1 ≤ 2 ^ times * (size - 1) ∧ 2 ^ times * (size - 1) ≤ 1000 := by
  obtain ⟨e, p1, p2⟩ := pow_ok h1 h2
  obtain ⟨z, rfl⟩ : ∃ z, size = z + 1 := ⟨size - 1, by omega⟩
  rw [e, Nat.add_sub_cancel, Int.natCast_mul]
  refine ⟨by rw [show ((z + 1 : Nat) : Int) - 1 = (z : Int) by omega], Nat.mul_pos (by omega) (by omega), Nat.le_trans (Nat.mul_le_mul p2 (show z ≤ 16 by omega)) (by decide)⟩
theorem wgo_len (top base : Nat) : ∀ (f coin : Nat) (ws : List Int), (wgo top base f coin ws).length = ws.length
  | 0, _, _ => rfl
  | f + 1, coin, ws => by
    unfold wgo
    by_cases h : coin ≤ top
    · rw [if_pos h, wgo_len top base f, pass_len]
    · rw [if_neg h]
theorem waysL_len (top base : Nat) : (waysL top base).length = top + 1 := by
  unfold waysL
  rw [wgo_len]; simp
theorem ways_size {top base : Nat} {vw : List Value} (h : IntsAre vw (waysL top base)) (ht : top ≤ 1000) : vw.toArray.size ≤ sizeLine := by
  rw [sizeLine_eq, List.size_toArray, h.length, waysL_len]; omega
theorem picked_size {top base : Nat} {vw : List Value} (h : IntsAre vw (waysL top base)) (ht : top ≤ 1000) (st : Option Int) : ((slicePick vw.toArray none none st).toList.toArray).size ≤ sizeLine := by
  have := slicePick_size_le vw.toArray none none st
  have h2 := ways_size h ht
  rw [Array.toArray_toList]
  omega
theorem st_bits {s : Int} (h : StOk s) : Builtin.Int.intBits s ≤ 64 := by
  unfold StOk at h
  rcases h with rfl | rfl | rfl | rfl | rfl | rfl | rfl | rfl <;> decide +kernel
end Mine
end
-- part F1
section
open PySem PySem.W PyProof.Rows
set_option Elab.async false
set_option maxRecDepth 100000
namespace Mine
def passS (coin : Nat) : List Int → Nat → Nat → List Int
  | l, _, 0 => l
  | l, s, k + 1 => passS coin (bump coin l s) (s + 1) k
theorem passS_snoc (coin : Nat) : ∀ (k : Nat) (l : List Int) (s : Nat), passS coin l s (k + 1) = bump coin (passS coin l s k) (s + k)
  | 0, _, _ => rfl
  | k + 1, l, s => by
    show passS coin (bump coin l s) (s + 1) (k + 1) = _
    rw [passS_snoc coin k, Nat.add_right_comm]
    rfl
theorem pass_S (coin : Nat) (ws : List Int) : ∀ k, pass coin ws k = passS coin ws coin k
  | 0 => rfl
  | k + 1 => by rw [passS_snoc, ← pass_S coin ws k]; rfl
def run (coin : Nat) : List Int → List Int → List Int
  | acc, [] => acc.reverse
  | acc, w :: ws => run coin ((w + acc.getD (coin - 1) 0) :: acc) ws
theorem bump_at {coin : Nat} {acc ws : List Int} {w : Int} (h1 : 1 ≤ coin) (h2 : coin ≤ acc.length) : bump coin (acc.reverse ++ w :: ws) acc.length = ((w + acc.getD (coin - 1) 0) :: acc).reverse ++ ws := by
  have e1 : (acc.reverse ++ w :: ws).getD acc.length 0 = w := by
    rw [List.getD_eq_getElem?_getD, List.getElem?_append_right (by simp)]
    simp
  have e2 : (acc.reverse ++ w :: ws).getD (acc.length - coin) 0 = acc.getD (coin - 1) 0 := by
    rw [List.getD_eq_getElem?_getD, List.getD_eq_getElem?_getD, List.getElem?_append_left (by simp; omega), List.getElem?_reverse (by omega), show acc.length - 1 - (acc.length - coin) = coin - 1 by omega]
  unfold bump
  rw [e1, e2, List.set_append_right _ _ (by simp)]
  simp
theorem run_S (coin : Nat) (h1 : 1 ≤ coin) : ∀ (ws acc : List Int), coin ≤ acc.length → passS coin (acc.reverse ++ ws) acc.length ws.length = run coin acc ws
  | [], acc, _ => by simp [passS, run]
  | w :: ws, acc, h2 => by
    show passS coin (bump coin (acc.reverse ++ w :: ws) acc.length) (acc.length + 1) ws.length = _
    rw [bump_at h1 h2]
    exact run_S coin h1 ws ((w + acc.getD (coin - 1) 0) :: acc) (by simp; omega)
def wgoF (top base : Nat) : Nat → Nat → List Int → List Int
  | 0, _, ws => ws
  | f + 1, coin, ws => if coin ≤ top then wgoF top base f (coin * base) (run coin (ws.take coin).reverse (ws.drop coin)) else ws
theorem wgo_F (top base : Nat) (hb : 1 ≤ base) : ∀ (f coin : Nat) (ws : List Int), 1 ≤ coin → ws.length = top + 1 → wgo top base f coin ws = wgoF top base f coin ws
  | 0, _, _, _, _ => rfl
  | f + 1, coin, ws, h1, hl => by
    unfold wgo wgoF
    by_cases h : coin ≤ top
    · rw [if_pos h, if_pos h]
      have e : pass coin ws (top + 1 - coin) = run coin (ws.take coin).reverse (ws.drop coin) := by
        have q := run_S coin h1 (ws.drop coin) (ws.take coin).reverse (by simp; omega)
        rw [List.reverse_reverse, List.take_append_drop, List.length_reverse, List.length_take, List.length_drop, Nat.min_eq_left (by omega), hl] at q
        rw [pass_S, q]
      rw [← e]
      exact wgo_F top base hb f (coin * base) _ (Nat.mul_pos h1 hb) (by rw [pass_len, hl])
    · rw [if_neg h, if_neg h]
def waysF (top base : Nat) : List Int := wgoF top base (top + 2) 1 (1 :: List.replicate top 0)
theorem ways_F (top base : Nat) (hb : 1 ≤ base) : waysL top base = waysF top base := wgo_F top base hb _ _ _ (Nat.le_refl _) (by simp)
end Mine
end
-- part P12
section
open PySem PySem.W PyProof.Rows
set_option Elab.async false
set_option maxRecDepth 100000
namespace Mine
theorem cl_scale (s : Int) (t : Nat) : ∀ n, cl s t n = (cl 1 t n).map (fun k => s * k)
  | 0 => by simp [cl]
  | n + 1 => by
    have g : ∀ (l : List Int) (i : Nat), (l.map (fun k => s * k)).getD i 0 = s * l.getD i 0 := by
      intro l i
      simp only [List.getD_eq_getElem?_getD, List.getElem?_map]
      cases l[i]? <;> simp
    simp only [cl]
    rw [cl_scale s t n, g, g, List.map_append]
    simp only [List.map_cons, List.map_nil, Int.mul_add]
theorem cl_pre (s : Int) (t : Nat) {n k : Nat} (h : n ≤ k) (i : Nat) (hi : i ≤ n) : (cl s t k)[i]? = (cl s t n)[i]? := by
  induction k with
  | zero => have : n = 0 := by omega
            subst this; rfl
  | succ k ih =>
    by_cases e : n = k + 1
    · subst e; rfl
    · rw [← ih (by omega)]
      simp only [cl]
      rw [List.getElem?_append_left (by rw [cl_len]; omega)]
def eqAll : Bool := (List.range 3).all fun t => (List.range 5).all fun z => decide (cl 1 (t + 1) (12 + z) = pickNums (waysF (2 ^ (t + 1) * (12 + z)) (2 ^ (t + 1))) none none (some ((2 ^ (t + 1) : Nat) : Int)))
theorem eqAll_true : eqAll = true := by decide +kernel
theorem law_eq {st : Int} {times size : Nat} (t1 : 1 ≤ times) (t2 : times ≤ 3) (s1 : 13 ≤ size) (s2 : size ≤ 17) :
    cl st times (size - 1) = List.map (fun k => st * k) (pickNums (waysL (2 ^ times * (size - 1)) (2 ^ times)) none none (some ((2 : Int) ^ ((times : Int)).toNat))) := by
  rw [cl_scale, (pow_ok t1 t2).1]
  have h := List.all_eq_true.mp (List.all_eq_true.mp eqAll_true (times - 1) (List.mem_range.mpr (by omega))) (size - 13) (List.mem_range.mpr (by omega))
  have h := of_decide_eq_true h
  rw [show times - 1 + 1 = times by omega, show 12 + (size - 13) = size - 1 by omega] at h
  rw [h, ways_F _ _ (Nat.two_pow_pos _)]
def sts : List Int := [1, -1, 3, -3, 5, -5, 7, -7]
theorem st_mem {s : Int} (h : StOk s) : s ∈ sts := by
  unfold StOk at h
  rcases h with rfl | rfl | rfl | rfl | rfl | rfl | rfl | rfl <;> decide
def figOne (s : Int) (t i : Nat) : Bool :=
  let c := (cl s t 16).getD i 0
  decide (c.natAbs < 2 ^ 32) && decide ((prodF s (digs (2 ^ t) (digD i t) i)).fmod (dvs t i) = c.fmod (dvs t i))
theorem figAll_true : (sts.all fun s => (List.range 3).all fun t => (List.range 17).all fun i => figOne s (t + 1) i) = true := by decide +kernel
theorem fig_ok {st : Int} {times size : Nat} (hs : StOk st) (t1 : 1 ≤ times) (t2 : times ≤ 3) (s1 : 13 ≤ size) (s2 : size ≤ 17) : FigOk st times (cl st times (size - 1)) := by
  intro i c hc
  have hi : i < size := by
    rcases Nat.lt_or_ge i size with h | h
    · exact h
    · rw [List.getElem?_eq_none (by rw [cl_len]; omega)] at hc; cases hc
  have h := List.all_eq_true.mp (List.all_eq_true.mp (List.all_eq_true.mp figAll_true st (st_mem hs)) (times - 1) (List.mem_range.mpr (by omega))) i (List.mem_range.mpr (by omega))
  rw [show times - 1 + 1 = times by omega] at h
  have hc2 : (cl st times 16).getD i 0 = c := by
    rw [List.getD_eq_getElem?_getD, cl_pre st times (n := size - 1) (by omega) i (by omega), hc]; rfl
  unfold figOne at h
  rw [hc2] at h
  have h := Bool.and_eq_true_iff.mp h
  exact ⟨of_decide_eq_true h.1, of_decide_eq_true h.2⟩
def goK (p : Nat) : Nat := if p = 2 then 1 else if p = 4 then 2 else 0
def goOne (s : Int) (p : Nat) : Bool :=
  let d := (cl s 1 16).getD (4 * p) 0 - (cl s 1 16).getD p 0
  decide ((digs (2 ^ 1) (digD p 1) p)[goK p]? = some 1) && ((List.range (goK p)).all fun i => decide ((digs (2 ^ 1) (digD p 1) p)[i]? ≠ some 1)) && decide (d.natAbs < 2 ^ 32) && decide (d.fmod (2 ^ ((3 * goK p + 7) / 2)) = 0) && decide ((d.fdiv (2 ^ ((3 * goK p + 7) / 2))).fmod 2 ≠ 0)
theorem goAll_true : (sts.all fun s => [1, 2, 3, 4].all fun p => goOne s p) = true := by decide +kernel
theorem go_ok {st : Int} {size : Nat} (hs : StOk st) (s1 : 13 ≤ size) (s2 : size ≤ 17) : GoOk (cl st 1 (size - 1)) := by
  intro p hp1 hp2
  rw [cl_len] at hp2
  have hp : p ∈ [1, 2, 3, 4] := by
    have : p = 1 ∨ p = 2 ∨ p = 3 ∨ p = 4 := by omega
    rcases this with rfl | rfl | rfl | rfl <;> decide
  have h := List.all_eq_true.mp (List.all_eq_true.mp goAll_true st (st_mem hs)) p hp
  have e : ∀ i, i ≤ size - 1 → (cl st 1 (size - 1)).getD i 0 = (cl st 1 16).getD i 0 := fun i hi => by
    rw [List.getD_eq_getElem?_getD, List.getD_eq_getElem?_getD, cl_pre st 1 (n := size - 1) (k := 16) (by omega) i hi]
  unfold goOne at h
  simp only [Bool.and_eq_true, decide_eq_true_eq, List.all_eq_true, List.mem_range] at h
  obtain ⟨⟨⟨⟨h1, h2⟩, h3⟩, h4⟩, h5⟩ := h
  refine ⟨goK p, ?_, h1, fun i hi => h2 i hi, ?_, ?_, ?_⟩
  · unfold goK; split <;> (try split) <;> omega
  · rw [e _ (by omega), e _ (by omega)]; exact h3
  · rw [e _ (by omega), e _ (by omega)]; exact h4
  · rw [e _ (by omega), e _ (by omega)]; exact h5
theorem ts_grown {h₀ h : Heap} {L : Addr} {sa sb : Option (Addr × Obj)} {rest : List (Addr × Obj)} (N : News h₀ L h (TS 30 32 4 sa ++ (TS 37 47 4 sb ++ rest))) : GrownAll [(41, 37), (34, 30)] h := by
  refine ⟨?_, ?_, trivial⟩
  · cases sb with
    | none => exact ⟨_, (N _ (List.mem_append_right _ (.head _))).1⟩
    | some q => exact ⟨_, (N _ (List.mem_append_right _ (.head _))).1⟩
  · cases sa with
    | none => exact ⟨_, (N _ (.head _)).1⟩
    | some q => exact ⟨_, (N _ (.head _)).1⟩
end Mine
end
-- part Z1
section
open PySem PySem.W PyProof.Rows
set_option Elab.async false
set_option maxRecDepth 100000
namespace Mine
def drawF (cs : List Int) (i : Nat) : Int := ([1, 0, 0, 7] : List Int).getD i 0 + (pickNums cs (some (i : Int)) none (some 4)).sum
set_option maxHeartbeats 8000000 in
theorem law_holds : PySem.Challenge.rw_wj0024_01.Holds := hd (by
  w_top off
  w_strict k_go0
  all_goals try k_fold
  iterate 20 (first | walk1 | (dsimp only; walk1))
  walk1
  walk1
  walk1
  rename Fr _ _ _ _ => lF'
  k_dflt (refine comp_enum (env := envOfC _ _ _ _ _) lF' (by rfl) (by with_unfolding_all rfl) (by with_unfolding_all rfl) (by decide) (by rfl) (by decide) (by rfl) (by rfl) (by decide) (by rfl) (by rfl) ?_)
  iterate 16 (first | walk1 | (dsimp only; walk1))
  rename Fr _ _ _ _ => lF'
  rename News _ _ _ _ => lN'
  k_dflt (refine' enum_src ?f lF' lN' (.head _) ?sz ?turn ?done)
  case f => exact drawF (List.map (fun k' => Int.fmod k' (10 ^ Int.toNat 6)) (List.take 12 (by assumption)))
  case sz => exact Nat.le_of_ble_eq_true rfl
  case turn =>
    clear lF' lN'
    intro s₂ i v ys9 C D e it oe oi oC m₂ t h tk E' hv hC hx hx2 F9 N9
    have hi4 : i < 4 := by
      rcases Nat.lt_or_ge i 4 with h4 | h4
      · exact h4
      · rw [List.getElem?_eq_none h4] at hv; cases hv
    obtain ⟨tv, rfl⟩ : ∃ tv, v = .int (([1, 0, 0, 7] : List Int).getD i 0) tv := by
      have : i = 0 ∨ i = 1 ∨ i = 2 ∨ i = 3 := by omega
      rcases this with rfl | rfl | rfl | rfl <;> exact ⟨_, (Option.some.inj hv).symm⟩
    clear hv
    walk1
    iterate 15 (first | walk1 | (dsimp only; walk1))
    rename IntsAre _ _ => hI8
    rename Fr _ _ _ _ => lF
    rename News _ _ _ _ => lN
    k_dflt (refine' sumK (by rfl) lF lN ⟨_, (lN _ (.head _)).1, rfl, _, rfl⟩ (IntsAre.pick hI8 (some (i : Int)) none (some 4)) ?_)
    intro h' tk' t' F' N'
    dsimp only
    walk1
    refine ⟨_, _, _, rfl, rfl, F', ?_⟩
    exact fun p hp => N' p (.tail _ hp)
  case done =>
    clear lF' lN'
    intro D ys9 h' tk hy9 F9 N9 l9
    clear l9
    obtain ⟨d0, d1, d2, d3, hyd⟩ : ∃ d0 d1 d2 d3 : Int, IntsAre ys9 [d0, d1, d2, d3] := ⟨_, _, _, _, hy9⟩
    clear hy9
    have N8 : News _ _ _ [(D, LCg.lst ys9), (_, _), (37, tabObj #[]), (30, tabObj #[])] := fun p hp => N9 p (by
      rcases List.mem_cons.mp hp with rfl | hp
      · exact .head _
      rcases List.mem_cons.mp hp with rfl | hp
      · exact .tail _ (.tail _ (.tail _ (.tail _ (.head _))))
      · exact .tail _ (.tail _ (.tail _ (.tail _ (.tail _ (.tail _ hp))))))
    clear N9
    iterate 33 (first | walk1 | (dsimp only; walk1))
    walk1
    iterate 30 (first | walk1 | (dsimp only; walk1))
    iterate 23 (first | walk1 | (dsimp only; walk1))
    rename Fr _ _ _ _ => F8
    rename News _ _ _ _ => N7
    rename _ = Data.cell _ => hcell
    obtain ⟨sg, hsg, sg1, sg2⟩ := sign_ok ([d0, d1, d2, d3].getD (Int.toNat 3) 0)
    obtain ⟨size, hsz, sz1, sz2⟩ := size_ok ([d0, d1, d2, d3].getD (Int.toNat 2) 0)
    obtain ⟨times, htm, tm1, tm2⟩ := times_ok ([d0, d1, d2, d3].getD (Int.toNat 1) 0)
    have hSt := st_ok ([d0, d1, d2, d3].getD (Int.toNat 0) 0)
    obtain ⟨st, hst⟩ : ∃ st, st = (1 + 2 * ([d0, d1, d2, d3].getD (Int.toNat 0) 0).fmod 4) * (1 - 2 * (([d0, d1, d2, d3].getD (Int.toNat 0) 0).fdiv 4).fmod 2) := ⟨_, rfl⟩
    rw [← hst] at hSt
    obtain ⟨tst, hcell2⟩ := cell_as hcell hst
    clear hcell
    rw [hsz, htm] at F8
    rw [hsg]
    clear hst hsz htm hsg hyd
    have N8 : News _ _ _ [(_, _), (37, tabObj #[]), (30, tabObj #[])] := fun p hp => N7 p (.tail _ (List.mem_append_right _ hp))
    clear N7
    walk1
    iterate 17 (first | walk1 | (dsimp only; walk1))
    rename News _ _ _ _ => N7
    k_dflt (refine' counts_spec (by k_asm) (by k_asm) (by k_asm) N7 (by k_asm) rfl ⟨by omega, by omega, tm1, tm2, by omega⟩ (by decide) (by decide) ?_)
    intro lc vc ec h9 tk9 hic F9 N9 lc9
    (try dsimp only)
    clear N7
    iterate 25 (first | walk1 | (dsimp only; walk1))
    rename News _ _ _ _ => N7
    obtain ⟨eb, eb1, eb2⟩ := pow_ok tm1 tm2
    obtain ⟨et, et1, et2⟩ := top_ok tm1 tm2 sz1 sz2
    rw [et, eb]
    k_dflt (refine' ways_spec (by k_asm) (by k_asm) (by k_asm) N7 (by k_asm) rfl ⟨et1, et2, eb1, by omega⟩ (by decide) (by decide) ?_)
    intro lw vw ew h10 tk10 hiw F10 N10 lw10
    (try dsimp only)
    clear N7
    iterate 3 (first | walk1 | (dsimp only; walk1))
    walk1
    walk1
    walk1
    k_dflt (refine LCg.ListComp_U (F₀ := by k_asm) (by with_unfolding_all rfl) (by decide) (by rfl) (by decide) (by rfl) ?_)
    iterate 10 (first | walk1 | (dsimp only; walk1))
    rename Fr _ _ _ _ => lF
    rename News _ _ _ _ => lN
    k_dflt (refine' kmk_slice3_lit (vl := Value.none) (vu := Value.none) lF lN ⟨_, (lN _ (.head _)).1, rfl, _, rfl⟩ .none .none (.int _ _) ?o (zs := (slicePick vw.toArray none none (some (2 ^ ((times : Int)).toNat))).toList) rfl ?_ ?s ?t (ways_size hiw et2))
    case o => exact fun h => by have := Option.some.inj h; omega
    case s => with_unfolding_all rfl
    case t => intro _; with_unfolding_all rfl
    intro lp h11 F11 N11 lp11
    clear lF lN
    k_dflt (refine LCg.CompSrc.ledger (by rfl) F11 N11 (.head _) (picked_size hiw et2 _) ?_)
    intro g'
    k_dflt (refine' kcf_list (fun k => st * k) (IntsAre.pick hiw none none (some (2 ^ ((times : Int)).toNat))) ?turn2 ?fin)
    case turn2 =>
      intro k' t' I' oI' C' oC' D' m' ys' h' tk' E' hk' hC' hx' F' N' off' ne' hMark'
      iterate 17 (first | walk1 | (dsimp only; walk1))
      refine PyProof.Rows.mul_int ?_ (.of_left (st_bits hSt))
      iterate 1 (first | walk1 | (dsimp only; walk1))
      walk1
      exact ⟨rfl, _, rfl⟩
    case fin =>
      unfold KPfDone
      intro zs hzs
      unfold LCg.FinE
      intro lz h12 tk12 F12 N12 o12
      clear F11 N11
      (try dsimp only)
      rw [← law_eq tm1 tm2 sz1 sz2] at hzs
      k_dflt (refine' ne_intsK ⟨_, (N12 _ (.tail _ (.tail _ (.tail _ (.head _))))).1, rfl, _, rfl⟩ hic ⟨_, (N12 _ (.head _)).1, rfl, _, rfl⟩ hzs ?hu ?_)
      case hu => units_room
      rw [decide_eq_true rfl, Bool.not_true]
      have N13 : News _ _ _ (TS 30 32 4 none ++ (TS 37 47 4 none ++ ((lc, listOf vc.toArray ec) :: [(_, _)]))) := fun p hp => N12 p (by
        simp only [TS, List.cons_append, List.nil_append, List.mem_cons, List.not_mem_nil, or_false] at hp
        rcases hp with rfl | rfl | rfl | rfl
        · exact .tail _ (.tail _ (.tail _ (.tail _ (.tail _ (.tail _ (.head _))))))
        · exact .tail _ (.tail _ (.tail _ (.tail _ (.tail _ (.head _)))))
        · exact .tail _ (.tail _ (.tail _ (.head _)))
        · exact .tail _ (.tail _ (.tail _ (.tail _ (.head _)))))
      clear N12
      iterate 18 (first | walk1 | (dsimp only; walk1))
      rename @LT.lt Nat _ 37 _ ∧ @LT.lt Nat _ 30 _ => hl0
      rename CodeHd _ _ _ => hcA
      rename CodeHd _ (Prod.fst (41, 37)) _ => hcB
      have hlc37 : @LT.lt Nat _ 37 lc := lc9 _ (.tail _ (.head _))
      k_dflt (refine' figures_spec (st1 := none) (st2 := none) hcA hcB (by k_asm) (by k_asm) (by k_asm) N13 (by k_asm) rfl ⟨⟨tm1, tm2, by rw [cl_len]; omega, hic, fig_ok hSt tm1 tm2 sz1 sz2⟩, ?hip⟩ (by decide) (by decide) ?_)
      case hip =>
        refine ⟨fun p hp => ?_, fun p hp => ?_, trivial, trivial, (fun q e => nomatch e), (fun q e => nomatch e)⟩
        · rcases List.mem_cons.mp hp with rfl | hp
          · show lc ≠ 30; refine neN ?_; omega
          · rw [List.mem_singleton.mp hp]; refine neN ?_; omega
        · rcases List.mem_cons.mp hp with rfl | hp
          · show lc ≠ 37; refine neN ?_; omega
          · rw [List.mem_singleton.mp hp]; refine neN ?_; omega
      intro sa sb h14 tk14 hip2 F14 N14
      (try dsimp only)
      clear N13
      iterate 13 (first | walk1 | (dsimp only; walk1))
      · k_steps
      · exact ts_grown N14
      · obtain rfl : times = 1 := by omega
        iterate 10 (first | walk1 | (dsimp only; walk1))
        k_dflt (refine' goes_spec (st1 := sa) (st2 := sb) hcA hcB (by k_asm) (by k_asm) (by k_asm) N14 (by k_asm) rfl ⟨⟨by rw [cl_len]; omega, by rw [cl_len]; omega, by omega, hic, go_ok hSt sz1 sz2⟩, hip2⟩ (by decide) (by decide) ?_)
        intro sc sd h15 tk15 hip3 F15 N15
        (try dsimp only)
        clear N14
        iterate 1 (first | walk1 | (dsimp only; walk1))
        · k_steps
        · exact ts_grown N15)
end Mine
end
theorem PySem.Challenge.cw_wj0024_01_holds : PySem.Challenge.rw_wj0024_01.Holds :=
  Mine.law_holds
