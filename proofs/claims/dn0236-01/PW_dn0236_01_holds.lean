import PyProof.Rows.All
import Wide.All
import OpenK.AllK
import Wide.FinOn
import PySem.Challenge.RW_dn0236_01
open PySem PySem.W PyProof.Rows
set_option Elab.async false
set_option maxRecDepth 100000
namespace Mine
set_option maxHeartbeats 8000000 in
open_top hd0236 for PySem.Challenge.rw_dn0236_01
section PartM1
open PySem PySem.W PyProof.Rows
def blanksL : List Int := [9, 10, 11, 12, 13, 28, 29, 30, 31, 32, 133, 160, 5760, 8232, 8233, 8239, 8287, 12288, 8192, 8193, 8194, 8195, 8196, 8197, 8198, 8199, 8200, 8201, 8202]

section
variable {prog : Program} {w : World} {A : Around} {E : Value → Shared → Prop} {s : Shared} {h₀ : Heap} {L : Addr} {m : Str → Option Value} {news : List (Addr × Obj)} {Q : Value → Shared → Prop}
/-- list(range(..)) onto the ledger -/
theorem list_rangeK {r : Addr} {a b : Int} {t u v : Tok} {n : Nat} {ns : List Int} (hh : A.handled = none) (F : Fr h₀ L s.heap m) (N : News h₀ L s.heap news)
    (hr : IsRange s.heap r a b 1 t u v) (hsmall : Builtin.Range.small a b 1 = true) (hn : Builtin.Range.rangeSize a b 1 = (n : Int)) (hlen : n ≤ 2 ^ 24) (e : rangeInts a 1 n = ns)
    (h : ∀ D c (vs : List Value) h' tk, Fr h₀ L h' m → News h₀ L h' ((D, W.listOf vs.toArray c) :: news) → (∀ p ∈ news, p.1 < D) → IntsAre vs ns → Q (.ref D) { s with heap := h', toks := tk }) :
    wpAny (model prog w) A (call (.type "list") [.ref r]) Q E s := by
  refine list_rangeD hh F N hr hsmall hn hlen fun h' tk ys F' N' hk hnone _ hp hc => ?_
  obtain ⟨⟨c, hD⟩, _⟩ := hp
  refine h _ c ys h' tk F' ?_ (fun p hp => Heap.lt_size (N p hp).1) (by rw [← e]; exact IntsAre.ofCarried hc)
  exact news_pushed F N hk hD rfl
end
set_option maxHeartbeats 8000000 in
local macro_rules | `(tactic| walk_at "call type:list") => `(tactic| (k_here; (with_reducible show wpAny _ _ (call (Value.type _) [Value.ref _]) _ _ _); (rename IsRange _ _ _ _ _ _ _ _ => R'); (rename Fr _ _ _ _ => F'); (rename News _ _ _ _ => N'); (with_unfolding_all refine list_rangeK rfl F' N' R' (by decide) (by rfl) (by decide) (by rfl) ?_); (intro D' c' vs' h' tk' F' N' l1 hI'); (try k_lt l1); (try k_sweep)))

set_option maxHeartbeats 8000000 in
theorem blanks_call : ∀ {w : World} {mean : ExcName → Option Value} {mg mb : Str → Option Value} {dp un : Nat} {gd : Option (List Code)} {cn : Str} {cs : Scope} {a : Addr} {ccd : Value} {cl : List (Str × Addr)} {outer : List Env} {A₀ : Around} {base h₀ : Heap} {L : Addr} {m : Str → Option Value} {news : List (Addr × Obj)} {s : Shared} {Q E : Value → Shared → Prop},
    Below A₀ base outer h₀ → Fr h₀ L s.heap m → (hd0236.heap_39 w.params).In h₀ → News h₀ L s.heap news → Top hd0236.view_39 (looseW hd0236.view_39 []) mean mg mb h₀ → cs.kind = .function → dp + 1 < recursionLimit → un + 8 < cLine →
    (∀ l vs nn h' tk', IntsAre vs blanksL → Fr h₀ L h' m → News h₀ L h' ((l, W.listOf vs.toArray nn) :: news) → (∀ p ∈ news, p.1 < l) → Q (.ref l) { s with heap := h', toks := tk' }) →
    wpAny (model Challenge.rw_dn0236_01.row.prog w) (ktrTop dp un gd cn cs L a ccd cl outer) (call (.ref 28) []) Q E s := by
  w_top off
  k_fill
  intro w mean mg mb dp un gd cn cs a ccd cl outer A₀ base h₀ L m news s Q E B F X N T hk hd hu ret
  refine wpAny_call ?_
  k_dflt cell_enter
  k_steps
  rename News _ L _ _ => kN
  rename Fr _ L _ _ => kF
  rename IntsAre _ _ => hI
  rename _ ∧ _ => l1
  exact ret _ _ _ _ _ hI kF (fun p hp => kN p (by
    rcases List.mem_cons.mp hp with rfl | hp
    · exact .head _
    · exact .tail _ (.tail _ (.tail _ (.tail _ (.tail _ (.tail _ (.tail _ hp)))))))) (kst_ltOf l1.2.2.2.2.2.2)
end PartM1
section PartM2
open PySem PySem.W PyProof.Rows
theorem le_strip {x : Str} {n : Nat} (h : x.length ≤ n) : (Txt.strip x).length ≤ n := Nat.le_trans (len_strip x) h
theorem le_slice {x : Str} {n : Nat} {a b : Option Int} (h : x.length ≤ n) : (Txt.slice x a b).length ≤ n := Nat.le_trans (PyProof.Txt.length_slice_le x _ _) h
theorem le_line {k n : Nat} (h : k ≤ n) (hn : n ≤ sizeLine) : k ≤ sizeLine := Nat.le_trans h hn
local macro_rules | `(tactic| walk_at "call builtin:str.strip") => `(tactic| (k_here; (with_reducible show wpAny _ _ (call (Value.builtin "str.strip") [Value.str _ _]) _ _ _); (refine SC.strip ?_ (le_line (n := 1000) ?z (by decide)); (case z => (repeat (first | assumption | refine le_strip ?_ | refine le_slice ?_)))); intro _ _))
local macro_rules | `(tactic| size_fits) => `(tactic| (refine le_line (n := 1000) ?z (by decide); (case z => ((repeat (first | assumption | refine le_strip ?_ | refine le_slice ?_)); done))))
/-- what unwrap gives -/
def unwrapA (x : Str) : Str := if (Txt.slice x none (some 1) == Str.ofString "<") = true then (if (Txt.slice x (some (-1)) none == Str.ofString ">") = true then Txt.strip (Txt.slice x (some 1) (some (-1))) else x) else x
def unwrapB (x : Str) : Str := if (Txt.slice x none (some 4) == Str.ofString "URL:") = true then Txt.strip (Txt.slice x (some 4) none) else x
def unwrapS (x : Str) : Str := unwrapB (unwrapA (Txt.strip x))
set_option maxHeartbeats 2000000 in
theorem unwrap_call : ∀ {w : World} {mean : ExcName → Option Value} {mg mb : Str → Option Value} {dp un : Nat} {gd : Option (List Code)} {cn : Str} {cs : Scope} {a : Addr} {ccd : Value} {cl : List (Str × Addr)} {outer : List Env} {A₀ : Around} {base h₀ : Heap} {L : Addr} {m : Str → Option Value} {news : List (Addr × Obj)} {s : Shared} {Q E : Value → Shared → Prop} {x : Str} {t : Tok},
    Below A₀ base outer h₀ → Fr h₀ L s.heap m → (hd0236.heap_39 w.params).In h₀ → News h₀ L s.heap news → Top hd0236.view_39 (looseW hd0236.view_39 []) mean mg mb h₀ → cs.kind = .function → dp + 1 < recursionLimit → un + 8 < cLine → x.length ≤ 1000 →
    (∀ y t' h' tk', y = unwrapS x → Fr h₀ L h' m → News h₀ L h' news → Q (.str y t') { s with heap := h', toks := tk' }) →
    wpAny (model Challenge.rw_dn0236_01.row.prog w) (ktrTop dp un gd cn cs L a ccd cl outer) (call (.ref 21) [.str x t]) Q E s := by
  w_top off
  k_fill
  intro w mean mg mb dp un gd cn cs a ccd cl outer A₀ base h₀ L m news s Q E x t B F X N T hk hd hu hx ret
  refine wpAny_call ?_
  k_dflt cell_enter
  k_steps
  all_goals (refine ret _ _ _ _ ?_ (by assumption) (by assumption))
  all_goals (simp only [unwrapS, unwrapA, unwrapB, *, if_true, Bool.false_eq_true, if_false])
end PartM2
section PartPL
open PySem PySem.W PyProof.Rows
open PySem.Builtin.Str in
section
/-! cuts of a text -/
theorem sub_at (x : Str) (i j k : Nat) (hj : j ≤ x.length) (hk : k < j - i) : (strSub x i j).cps.getD k 0 = x.cps.getD (i + k) 0 := by
  rw [← getD_list, ← getD_list, StrLaws.strSub_toList]
  simp only [List.getD, List.getElem?_take, List.getElem?_drop, hk, if_true]
theorem sub_size (x : Str) (i j : Nat) (hj : j ≤ x.length) : (strSub x i j).length = j - i := StrLaws.sub_len x i j hj
theorem sub_sub (x : Str) (i j a b : Nat) (hb : i + b ≤ j) : strSub (strSub x i j) a b = strSub x (i + a) (i + b) := by
  show Str.mk ((x.cps.extract i j).extract a b) = Str.mk (x.cps.extract (i + a) (i + b))
  rw [Array.extract_extract]
  congr 2
  omega
theorem slice_of (x : Str) (l u : Option Int) (a b : Nat) (hab : a ≤ b) (hb : b ≤ x.length) (e : strSliceIndices l u 1 x.length = strSliceIndices (some (a : Int)) (some (b : Int)) 1 x.length) : Txt.slice x l u = strSub x a b := by
  have h1 : Txt.slice x l u = StrLaws.sliceText x (some (a : Int)) (some (b : Int)) := by
    unfold Txt.slice StrLaws.sliceText
    rw [e]
  rw [h1, StrLaws.sliceText_nat x hab hb, strSub_mk]
theorem slice_nat (x : Str) (a b : Nat) (hab : a ≤ b) (hb : b ≤ x.length) : Txt.slice x (some (a : Int)) (some (b : Int)) = strSub x a b := slice_of x _ _ a b hab hb rfl
theorem slice_int (x : Str) (i j : Int) (a b : Nat) (hi : i = a) (hj : j = b) (hab : a ≤ b) (hb : b ≤ x.length) : Txt.slice x (some i) (some j) = strSub x a b := by
  subst hi; subst hj; exact slice_nat x a b hab hb
theorem slice_to (x : Str) (b : Nat) (hb : b ≤ x.length) : Txt.slice x none (some (b : Int)) = strSub x 0 b := by
  refine slice_of x _ _ 0 b (Nat.zero_le _) hb ?_
  rw [StrLaws.sliceIdx_none_lo]; rfl
theorem slice_from (x : Str) (a : Nat) (ha : a ≤ x.length) : Txt.slice x (some (a : Int)) none = strSub x a x.length := by
  refine slice_of x _ _ a x.length ha (Nat.le_refl _) ?_
  rw [StrLaws.sliceIdx_none_hi]
theorem slice_last (x : Str) (h : 1 ≤ x.length) : Txt.slice x (some (-1)) none = strSub x (x.length - 1) x.length := by
  refine slice_of x _ _ (x.length - 1) x.length (by omega) (Nat.le_refl _) ?_
  rw [StrLaws.sliceIdx_none_hi]
  have e : max (0 : Int) (min (-1 + (x.length : Int)) (x.length : Int)) = max (0 : Int) (min ((x.length - 1 : Nat) : Int) (x.length : Int)) := by omega
  have n1 : ¬ (((x.length - 1 : Nat) : Int) < 0) := by omega
  simp only [strSliceIndices, show ((-1 : Int) < 0) by decide, if_true, n1, if_false, show ((1 : Int) > 0) by decide, e]
theorem slice_mid (x : Str) (h : 2 ≤ x.length) : Txt.slice x (some 1) (some (-1)) = strSub x 1 (x.length - 1) := by
  refine slice_of x _ _ 1 (x.length - 1) (by omega) (by omega) ?_
  have e : max (0 : Int) (min (-1 + (x.length : Int)) (x.length : Int)) = max (0 : Int) (min ((x.length - 1 : Nat) : Int) (x.length : Int)) := by omega
  have n1 : ¬ (((x.length - 1 : Nat) : Int) < 0) := by omega
  simp only [strSliceIndices, show ((-1 : Int) < 0) by decide, if_true, n1, if_false, show ((1 : Int) > 0) by decide, e]
  rfl
theorem slice_past (x : Str) (l : Int) (h : (x.length : Int) ≤ l) : (Txt.slice x (some l) (some (l + 1))).length = 0 := by
  have e : Txt.slice x (some l) (some (l + 1)) = strSub x x.length x.length := by
    refine slice_of x _ _ x.length x.length (Nat.le_refl _) (Nat.le_refl _) ?_
    have n1 : ¬ (l < 0) := by omega
    have n2 : ¬ (l + 1 < 0) := by omega
    have n3 : ¬ ((x.length : Int) < 0) := by omega
    have e1 : max (0 : Int) (min l (x.length : Int)) = (x.length : Int) := by omega
    have e2 : max (0 : Int) (min (l + 1) (x.length : Int)) = (x.length : Int) := by omega
    have e3 : max (0 : Int) (min (x.length : Int) (x.length : Int)) = (x.length : Int) := by omega
    simp only [strSliceIndices, n1, n2, n3, if_false, show ((1 : Int) > 0) by decide, if_true, e1, e2, e3]
  rw [e, sub_size _ _ _ (Nat.le_refl _)]; omega
theorem sub_one (x : Str) (k : Nat) (hk : k < x.length) : strSub x k (k + 1) = ⟨#[x.cps.getD k 0]⟩ := by
  have hk' : k < x.cps.size := hk
  show Str.mk (x.cps.extract k (k + 1)) = _
  congr 1
  apply Array.ext
  · simp; omega
  · intro i h1 h2
    have : i = 0 := by simp at h2; omega
    subst this
    simp [hk']
theorem sub_four (x : Str) (k : Nat) (hk : k + 4 ≤ x.length) : strSub x k (k + 4) = ⟨#[x.cps.getD k 0, x.cps.getD (k + 1) 0, x.cps.getD (k + 2) 0, x.cps.getD (k + 3) 0]⟩ := by
  have hk' : k + 4 ≤ x.cps.size := hk
  show Str.mk (x.cps.extract k (k + 4)) = _
  congr 1
  apply Array.ext
  · simp; omega
  · intro i h1 h2
    have : i = 0 ∨ i = 1 ∨ i = 2 ∨ i = 3 := by simp at h2; omega
    rcases this with rfl | rfl | rfl | rfl
    · simp [show k < x.cps.size by omega]
    · simp [show k + 1 < x.cps.size by omega]
    · simp [show k + 2 < x.cps.size by omega]
    · simp [show k + 3 < x.cps.size by omega]
theorem item_at (x : Str) (i : Int) (k : Nat) (hi : i = k) (hk : k < x.length) : Txt.item x i = ⟨#[x.cps.getD k 0]⟩ := by
  subst hi
  have := item_closes (x := x) (i := (k : Int)) ⟨by omega, by omega⟩
  rw [beq_iff_eq] at this
  rw [this]; rfl
end
end PartPL
section PartPL2
open PySem PySem.W PyProof.Rows PySem.Builtin.Str
/-! the places that are not blank -/
/-- one turn of the list of the places -/
def placeG (x : Str) (l : List Int) (k : Int) : List Int := if (blanksL.any fun b => b == (((Txt.item x k).cps.getD 0 0 : Nat) : Int)) = true then l else l ++ [k]
theorem placeG_yes {x : Str} {l : List Int} {k : Int} (h : (blanksL.any fun b => b == (((Txt.item x k).cps.getD 0 0 : Nat) : Int)) = true) : placeG x l k = l := by
  unfold placeG; rw [if_pos h]
theorem placeG_no {x : Str} {l : List Int} {k : Int} (h : (blanksL.any fun b => b == (((Txt.item x k).cps.getD 0 0 : Nat) : Int)) = false) : placeG x l k = l ++ [k] := by
  unfold placeG; rw [if_neg (by rw [h]; decide)]
theorem placeG_grows (x : Str) : KPfGrows (placeG x) := fun l k => by
  unfold placeG; split
  · omega
  · simp
theorem blank_is (c : Nat) : (blanksL.any fun b => b == (c : Int)) = Unicode.isSpace c := by
  rw [Bool.eq_iff_iff]
  simp only [blanksL, List.any_cons, List.any_nil, Bool.or_false, Bool.or_eq_true, beq_iff_eq, Unicode.isSpace, UnicodeData.space, UnicodeData.space0, Unicode.within]
  repeat' split
  all_goals (constructor <;> intro h <;> simp only [Bool.or_eq_true, decide_eq_true_eq, Bool.false_eq_true, or_false] at h ⊢ <;> omega)
/-- the places from a on, below b -/
def places (x : Str) (a b : Nat) : List Int := ((List.range' a (b - a)).filter fun k => !Unicode.isSpace (x.cps.getD k 0)).map fun (k : Nat) => (k : Int)
theorem places_app (x : Str) {a m b : Nat} (h1 : a ≤ m) (h2 : m ≤ b) : places x a b = places x a m ++ places x m b := by
  unfold places
  rw [← List.map_append, ← List.filter_append]
  have e : List.range' a (b - a) = List.range' a (m - a) ++ List.range' m (b - m) := by
    have := List.range'_append_1 (s := a) (m := m - a) (n := b - m)
    rw [show a + (m - a) = m by omega, show m - a + (b - m) = b - a by omega] at this
    exact this.symm
  rw [e]
theorem places_blank (x : Str) {a b : Nat} (h : ∀ k, a ≤ k → k < b → Unicode.isSpace (x.cps.getD k 0) = true) : places x a b = [] := by
  unfold places
  rw [List.filter_eq_nil_iff.mpr, List.map_nil]
  intro k hk
  obtain ⟨h1, h2⟩ := List.mem_range'_1.mp hk
  rw [h k h1 (by omega)]
  decide
theorem places_none (x : Str) (a : Nat) : places x a a = [] := places_blank x fun k h1 h2 => by omega
theorem places_one (x : Str) {a : Nat} (h : Unicode.isSpace (x.cps.getD a 0) = false) : places x a (a + 1) = [(a : Int)] := by
  unfold places
  rw [show a + 1 - a = 1 by omega]
  show List.map _ (List.filter _ [a]) = _
  rw [List.filter_cons_of_pos (by rw [h]; rfl), List.filter_nil]; rfl
theorem places_cons (x : Str) {a b : Nat} (hab : a < b) (h : Unicode.isSpace (x.cps.getD a 0) = false) : places x a b = (a : Int) :: places x (a + 1) b := by
  rw [places_app x (show a ≤ a + 1 by omega) (show a + 1 ≤ b by omega), places_one x h]; rfl
theorem places_snoc (x : Str) {a b : Nat} (hab : a < b) (h : Unicode.isSpace (x.cps.getD (b - 1) 0) = false) : places x a b = places x a (b - 1) ++ [((b - 1 : Nat) : Int)] := by
  rw [places_app x (show a ≤ b - 1 by omega) (show b - 1 ≤ b by omega)]
  have := places_one x h
  rw [show b - 1 + 1 = b by omega] at this
  rw [this]
theorem places_mem (x : Str) {a b : Nat} {p : Int} (h : p ∈ places x a b) : (a : Int) ≤ p ∧ p < (b : Int) := by
  unfold places at h
  obtain ⟨k, hk, rfl⟩ := List.mem_map.mp h
  obtain ⟨h1, h2⟩ := List.mem_range'_1.mp (List.mem_filter.mp hk).1
  omega
theorem places_len (x : Str) (a b : Nat) : (places x a b).length ≤ b - a := by
  unfold places
  rw [List.length_map]
  refine Nat.le_trans (List.length_filter_le _ _) ?_
  rw [List.length_range']; exact Nat.le_refl _
/-- what the comprehension gives -/
theorem fold_places (x : Str) : ∀ n : Nat, n ≤ x.length → (rangeKs 0 n).foldl (placeG x) [] = places x 0 n
  | 0, _ => rfl
  | n + 1, h => by
    have e : rangeKs 0 (n + 1) = rangeKs 0 n ++ [(n : Int)] := by
      unfold rangeKs
      rw [List.range_succ, List.map_append]
      simp
    rw [e, List.foldl_append, fold_places x n (by omega), places_app x (Nat.zero_le n) (Nat.le_succ n)]
    show placeG x (places x 0 n) (n : Int) = _
    have hi : (Txt.item x (n : Int)).cps.getD 0 0 = x.cps.getD n 0 := by rw [item_at x (n : Int) n rfl (by omega)]; rfl
    have hb := blank_is ((Txt.item x (n : Int)).cps.getD 0 0)
    cases hs : Unicode.isSpace (x.cps.getD n 0) with
    | true =>
      rw [placeG_yes (by rw [hb, hi, hs]), places_blank x (a := n) fun k h1 h2 => by rw [show k = n by omega]; exact hs]
      simp
    | false => rw [placeG_no (by rw [hb, hi, hs]), places_one x hs]
end PartPL2
section PartPL3
open PySem PySem.W PyProof.Rows PySem.Builtin.Str
/-- p and q bound a cut that has no blank at its ends -/
def Trim (x : Str) (p q : Nat) : Prop := p ≤ q ∧ q ≤ x.length ∧ (p = q ∨ (p < q ∧ Unicode.isSpace (x.cps.getD p 0) = false ∧ Unicode.isSpace (x.cps.getD (q - 1) 0) = false))
theorem strip_cuts (x : Str) : ∃ lo hi : Nat, lo ≤ hi ∧ hi ≤ x.length ∧ Txt.strip x = strSub x lo hi ∧ (∀ k, k < lo → Unicode.isSpace (x.cps.getD k 0) = true) ∧ (∀ k, hi ≤ k → k < x.length → Unicode.isSpace (x.cps.getD k 0) = true) ∧
    (lo = hi ∨ (Unicode.isSpace (x.cps.getD lo 0) = false ∧ Unicode.isSpace (x.cps.getD (hi - 1) 0) = false)) := by
  obtain ⟨a0, a1, a2⟩ := lo_facts Unicode.isSpace x
  obtain ⟨b0, b1, b2, b3⟩ := hi_facts Unicode.isSpace x (stripLo Unicode.isSpace true x) a0
  refine ⟨stripLo Unicode.isSpace true x, stripHi Unicode.isSpace true x (stripLo Unicode.isSpace true x), b0, b1, by unfold Txt.strip; rw [PyProof.Rows.stripBy_eq], a1, b2, ?_⟩
  by_cases hh : stripLo Unicode.isSpace true x = stripHi Unicode.isSpace true x (stripLo Unicode.isSpace true x)
  · exact .inl hh
  · refine .inr ⟨?_, ?_⟩
    · rcases a2 with h | h
      · omega
      · exact h
    · rcases b3 with h | h
      · omega
      · exact h
theorem trim (x : Str) {a b : Nat} (hab : a ≤ b) (hb : b ≤ x.length) : ∃ p q, Trim x p q ∧ Txt.strip (strSub x a b) = strSub x p q ∧ places x a b = places x p q ∧ a ≤ p ∧ q ≤ b := by
  obtain ⟨lo, hi, h1, h2, h3, h4, h5, h6⟩ := strip_cuts (strSub x a b)
  rw [sub_size x a b hb] at h2 h5
  have hc : ∀ k, k < b - a → (strSub x a b).cps.getD k 0 = x.cps.getD (a + k) 0 := fun k hk => sub_at x a b k hb hk
  refine ⟨a + lo, a + hi, ⟨by omega, by omega, ?_⟩, ?_, ?_, by omega, by omega⟩
  · rcases h6 with h6 | ⟨h6, h7⟩
    · exact .inl (by omega)
    · by_cases e : lo = hi
      · exact .inl (by omega)
      · refine .inr ⟨by omega, ?_, ?_⟩
        · rw [← hc lo (by omega)]; exact h6
        · rw [hc (hi - 1) (by omega)] at h7
          rw [show a + hi - 1 = a + (hi - 1) by omega]; exact h7
  · rw [h3, sub_sub x a b lo hi (by omega)]
  · rw [places_app x (show a ≤ a + lo by omega) (show a + lo ≤ b by omega), places_app x (show a + lo ≤ a + hi by omega) (show a + hi ≤ b by omega), places_blank x (a := a) (b := a + lo), places_blank x (a := a + hi) (b := b)]
    · simp
    · intro k k1 k2
      have := h5 (k - a) (by omega) (by omega)
      rw [hc _ (by omega), show a + (k - a) = k by omega] at this
      exact this
    · intro k k1 k2
      have := h4 (k - a) (by omega)
      rw [hc _ (by omega), show a + (k - a) = k by omega] at this
      exact this
theorem strip_trim {x : Str} {p q : Nat} (h : Trim x p q) : Txt.strip (strSub x p q) = strSub x p q := by
  obtain ⟨h1, h2, h3⟩ := h
  obtain ⟨p', q', ⟨t1, t2, t3⟩, e, ep, l1, l2⟩ := trim x h1 h2
  rw [e]
  rcases h3 with h3 | ⟨h3, h4, h5⟩
  · rw [show p' = p by omega, show q' = q by omega]
  · rcases t3 with t3 | ⟨t3, t4, t5⟩
    · rw [places_cons x h3 h4, t3, places_none] at ep
      exact absurd ep (by simp)
    · have ea := ep
      rw [places_cons x h3 h4, places_cons x t3 t4] at ea
      have eb := ep
      rw [places_snoc x h3 h5, places_snoc x t3 t5] at eb
      have a1 : (p : Int) = (p' : Int) := (List.cons.inj ea).1
      have a2 : ((q - 1 : Nat) : Int) = ((q' - 1 : Nat) : Int) := by
        have := congrArg List.getLast? eb
        simpa using this
      rw [show p' = p by omega, show q' = q by omega]
theorem sub_nil (x : Str) (p : Nat) (hp : p ≤ x.length) : strSub x p p = Str.ofString "" := by
  have h := sub_size x p p hp
  have h0 : (strSub x p p).cps.size = 0 := by
    have : (strSub x p p).cps.size = (strSub x p p).length := rfl
    omega
  have e1 : (strSub x p p).cps = #[] := Array.eq_empty_of_size_eq_zero h0
  have e2 : (Str.ofString "").cps = #[] := by decide +kernel
  exact PySem.Str.ext' (e1.trans e2.symm)
/-! what the walk gives -/
def piece (x : Str) (ps : List Int) : Str := if (0 : Int) < (ps.length : Int) then Txt.slice x (some (ps.getD (Int.toNat 0) 0)) (some (ps.getD (-1 + (ps.length : Int)).toNat 0 + 1)) else Str.ofString ""
def isA (x : Str) (ps : List Int) : Bool := decide ((1 : Int) < (ps.length : Int)) && (Txt.item x (ps.getD (Int.toNat 0) 0) ++ Txt.item x (ps.getD (-1 + (ps.length : Int)).toNat 0) == Str.ofString "<>")
def isU (x : Str) (ps : List Int) : Bool := decide ((3 : Int) < (ps.length : Int)) && (Txt.slice x (some (ps.getD (Int.toNat 0) 0)) (some (ps.getD (Int.toNat 3) 0 + 1)) == Str.ofString "URL:")
def nextA (ps : List Int) : List Int := List.take (ps.length - 1 - 1) (List.drop 1 ps)
def nextU (ps : List Int) : List Int := List.drop 4 ps
theorem first_is {x : Str} {p q : Nat} (h : p < q) (hs : Unicode.isSpace (x.cps.getD p 0) = false) : (places x p q).getD (Int.toNat 0) 0 = (p : Int) := by
  rw [places_cons x h hs]; rfl
theorem last_is {x : Str} {p q : Nat} (h : p < q) (hs : Unicode.isSpace (x.cps.getD (q - 1) 0) = false) : (places x p q).getD (-1 + ((places x p q).length : Int)).toNat 0 = ((q - 1 : Nat) : Int) := by
  rw [places_snoc x h hs]
  simp only [List.length_append, List.length_cons, List.length_nil]
  rw [show (-1 + (((places x p (q - 1)).length + (0 + 1) : Nat) : Int)).toNat = (places x p (q - 1)).length by omega]
  simp [List.getD]
theorem piece_is {x : Str} {p q : Nat} (h : Trim x p q) : piece x (places x p q) = strSub x p q := by
  obtain ⟨h1, h2, h3⟩ := h
  unfold piece
  rcases h3 with h3 | ⟨h3, h4, h5⟩
  · subst h3
    rw [places_none, if_neg (by simp), sub_nil x p h2]
  · rw [if_pos (by rw [places_cons x h3 h4]; simp only [List.length_cons]; omega), first_is h3 h4, last_is h3 h5]
    exact slice_int x _ _ p q rfl (by omega) (by omega) h2
theorem txtA : Str.ofString "<>" = ⟨#[60, 62]⟩ := by decide +kernel
theorem txtL : Str.ofString "<" = ⟨#[60]⟩ := by decide +kernel
theorem txtG : Str.ofString ">" = ⟨#[62]⟩ := by decide +kernel
theorem txtU : Str.ofString "URL:" = ⟨#[85, 82, 76, 58]⟩ := by decide +kernel
theorem txt1U : Str.ofString "U" = ⟨#[85]⟩ := by decide +kernel
theorem pair_is (a b : Nat) : (⟨#[a]⟩ : Str) ++ ⟨#[b]⟩ = ⟨#[a, b]⟩ := rfl
theorem isA_iff {x : Str} {p q : Nat} (h : Trim x p q) : isA x (places x p q) = true ↔ (p < q ∧ x.cps.getD p 0 = 60 ∧ x.cps.getD (q - 1) 0 = 62) := by
  obtain ⟨h1, h2, h3⟩ := h
  unfold isA
  rw [Bool.and_eq_true, decide_eq_true_eq]
  have hl := places_len x p q
  rcases h3 with h3 | ⟨h3, h4, h5⟩
  · constructor
    · rintro ⟨h6, _⟩; omega
    · rintro ⟨h6, _⟩; omega
  · rw [first_is h3 h4, last_is h3 h5, item_at x (p : Int) p rfl (by omega), item_at x ((q - 1 : Nat) : Int) (q - 1) rfl (by omega), pair_is, txtA, beq_iff_eq]
    constructor
    · rintro ⟨_, h6⟩
      injection h6 with h6
      injection h6 with h6
      injection h6 with h6 h7
      injection h7 with h7 _
      exact ⟨h3, h6, h7⟩
    · rintro ⟨_, h6, h7⟩
      refine ⟨?_, by rw [h6, h7]⟩
      have hne : p ≠ q - 1 := by intro e; rw [← e] at h7; omega
      rw [places_cons x h3 h4, places_snoc x (show p + 1 < q by omega) h5]
      simp only [List.length_cons, List.length_append, List.length_nil]
      omega
theorem next_A {x : Str} {p q : Nat} (h : Trim x p q) (hA : p < q ∧ x.cps.getD p 0 = 60 ∧ x.cps.getD (q - 1) 0 = 62) : nextA (places x p q) = places x (p + 1) (q - 1) ∧ p + 1 ≤ q - 1 := by
  obtain ⟨h1, h2, h3⟩ := h
  obtain ⟨h4, h5, h6⟩ := hA
  have hne : p ≠ q - 1 := by intro e; rw [← e] at h6; omega
  rcases h3 with h3 | ⟨_, h7, h8⟩
  · omega
  · refine ⟨?_, by omega⟩
    unfold nextA
    rw [places_cons x h4 h7, places_snoc x (show p + 1 < q by omega) h8]
    simp
theorem wrapA_is {x : Str} {p q : Nat} (h1 : p ≤ q) (h2 : q ≤ x.length) : unwrapA (strSub x p q) = if p < q ∧ x.cps.getD p 0 = 60 ∧ x.cps.getD (q - 1) 0 = 62 then Txt.strip (strSub x (p + 1) (q - 1)) else strSub x p q := by
  have hs := sub_size x p q h2
  unfold unwrapA
  by_cases hpq : p < q
  · have e1 : Txt.slice (strSub x p q) none (some 1) = ⟨#[x.cps.getD p 0]⟩ := by
      rw [show (1 : Int) = ((1 : Nat) : Int) from rfl, slice_to _ 1 (by omega), sub_sub x p q 0 1 (by omega)]
      exact sub_one x p (by omega)
    have e2 : Txt.slice (strSub x p q) (some (-1)) none = ⟨#[x.cps.getD (q - 1) 0]⟩ := by
      rw [slice_last _ (by omega), hs, sub_sub x p q (q - p - 1) (q - p) (by omega), show p + (q - p - 1) = q - 1 by omega, show p + (q - p) = q - 1 + 1 by omega]
      exact sub_one x (q - 1) (by omega)
    rw [e1, e2, txtL, txtG]
    by_cases c1 : x.cps.getD p 0 = 60
    · rw [c1, if_pos (by rw [beq_iff_eq])]
      by_cases c2 : x.cps.getD (q - 1) 0 = 62
      · rw [c2, if_pos (by rw [beq_iff_eq]), if_pos ⟨hpq, rfl, rfl⟩]
        have hne : p ≠ q - 1 := by intro e; rw [← e] at c2; omega
        rw [slice_mid _ (by omega), hs, sub_sub x p q 1 (q - p - 1) (by omega), show p + (q - p - 1) = q - 1 by omega]
      · rw [if_neg (by rw [beq_iff_eq]; intro e; injection e with e; injection e with e; injection e with e _; exact c2 e), if_neg (fun e => c2 e.2.2)]
    · rw [if_neg (by rw [beq_iff_eq]; intro e; injection e with e; injection e with e; injection e with e _; exact c1 e), if_neg (fun e => c1 e.2.1)]
  · rw [if_neg, if_neg (fun e => hpq e.1)]
    rw [beq_iff_eq]
    intro e
    have hl := PyProof.Txt.length_slice_le (strSub x p q) none (some 1)
    rw [e, hs] at hl
    have : (Str.ofString "<").length = 1 := by decide +kernel
    omega
theorem isU_iff {x : Str} {p q : Nat} (h : Trim x p q) : isU x (places x p q) = true ↔ (p + 4 ≤ q ∧ x.cps.getD p 0 = 85 ∧ x.cps.getD (p + 1) 0 = 82 ∧ x.cps.getD (p + 2) 0 = 76 ∧ x.cps.getD (p + 3) 0 = 58) := by
  obtain ⟨h1, h2, h3⟩ := h
  unfold isU
  rw [Bool.and_eq_true, decide_eq_true_eq]
  have hl := places_len x p q
  rcases h3 with h3 | ⟨h3, h4, h5⟩
  · constructor
    · rintro ⟨h6, _⟩; omega
    · rintro ⟨h6, _⟩; omega
  · rw [first_is h3 h4, beq_iff_eq]
    constructor
    · rintro ⟨h6, h7⟩
      have hk : 3 < (places x p q).length := by omega
      have hm : (places x p q).getD (Int.toNat 3) 0 ∈ places x p q := by
        have e : (places x p q).getD (Int.toNat 3) 0 = (places x p q)[3] := by
          show (places x p q).getD 3 0 = _
          simp [List.getD, hk]
        rw [e]; exact List.getElem_mem hk
      obtain ⟨m1, m2⟩ := places_mem x hm
      obtain ⟨r, hr⟩ := Int.eq_ofNat_of_zero_le (Int.le_trans (Int.natCast_nonneg p) m1)
      rw [hr] at h7 m1 m2
      rw [slice_int x _ _ p (r + 1) rfl (by omega) (by omega) (by omega)] at h7
      have hs := sub_size x p (r + 1) (by omega)
      rw [h7] at hs
      have h8 : (Str.ofString "URL:").length = 4 := by decide +kernel
      rw [show r + 1 = p + 4 by omega, sub_four x p (by omega), txtU] at h7
      injection h7 with h7
      injection h7 with h7
      injection h7 with e0 h7
      injection h7 with e1 h7
      injection h7 with e2 h7
      injection h7 with e3 _
      exact ⟨by omega, e0, e1, e2, e3⟩
    · rintro ⟨h6, e0, e1, e2, e3⟩
      have s1 : Unicode.isSpace (x.cps.getD (p + 1) 0) = false := by rw [e1]; decide +kernel
      have s2 : Unicode.isSpace (x.cps.getD (p + 2) 0) = false := by rw [e2]; decide +kernel
      have s3 : Unicode.isSpace (x.cps.getD (p + 3) 0) = false := by rw [e3]; decide +kernel
      have ep : places x p q = (p : Int) :: ((p + 1 : Nat) : Int) :: ((p + 2 : Nat) : Int) :: ((p + 3 : Nat) : Int) :: places x (p + 4) q := by
        rw [places_cons x h3 h4, places_cons x (show p + 1 < q by omega) s1, places_cons x (show p + 1 + 1 < q by omega) s2, places_cons x (show p + 1 + 1 + 1 < q by omega) s3]
      rw [ep]
      refine ⟨by simp only [List.length_cons]; omega, ?_⟩
      show Txt.slice x (some (p : Int)) (some (((p + 3 : Nat) : Int) + 1)) = _
      rw [slice_int x _ _ p (p + 4) rfl (by omega) (by omega) (by omega), sub_four x p (by omega), e0, e1, e2, e3, txtU]
theorem next_U {x : Str} {p q : Nat} (h : Trim x p q) (hU : p + 4 ≤ q ∧ x.cps.getD p 0 = 85 ∧ x.cps.getD (p + 1) 0 = 82 ∧ x.cps.getD (p + 2) 0 = 76 ∧ x.cps.getD (p + 3) 0 = 58) : nextU (places x p q) = places x (p + 4) q := by
  obtain ⟨h6, e0, e1, e2, e3⟩ := hU
  have s0 : Unicode.isSpace (x.cps.getD p 0) = false := by rw [e0]; decide +kernel
  have s1 : Unicode.isSpace (x.cps.getD (p + 1) 0) = false := by rw [e1]; decide +kernel
  have s2 : Unicode.isSpace (x.cps.getD (p + 2) 0) = false := by rw [e2]; decide +kernel
  have s3 : Unicode.isSpace (x.cps.getD (p + 3) 0) = false := by rw [e3]; decide +kernel
  unfold nextU
  rw [places_cons x (show p < q by omega) s0, places_cons x (show p + 1 < q by omega) s1, places_cons x (show p + 1 + 1 < q by omega) s2, places_cons x (show p + 1 + 1 + 1 < q by omega) s3]
  rfl
theorem wrapB_is {x : Str} {p q : Nat} (h1 : p ≤ q) (h2 : q ≤ x.length) : unwrapB (strSub x p q) = if p + 4 ≤ q ∧ x.cps.getD p 0 = 85 ∧ x.cps.getD (p + 1) 0 = 82 ∧ x.cps.getD (p + 2) 0 = 76 ∧ x.cps.getD (p + 3) 0 = 58 then Txt.strip (strSub x (p + 4) q) else strSub x p q := by
  have hs := sub_size x p q h2
  unfold unwrapB
  by_cases hpq : p + 4 ≤ q
  · have e1 : Txt.slice (strSub x p q) none (some 4) = ⟨#[x.cps.getD p 0, x.cps.getD (p + 1) 0, x.cps.getD (p + 2) 0, x.cps.getD (p + 3) 0]⟩ := by
      rw [show (4 : Int) = ((4 : Nat) : Int) from rfl, slice_to _ 4 (by omega), sub_sub x p q 0 4 (by omega)]
      exact sub_four x p (by omega)
    have e2 : Txt.slice (strSub x p q) (some 4) none = strSub x (p + 4) q := by
      rw [show (4 : Int) = ((4 : Nat) : Int) from rfl, slice_from _ 4 (by omega), hs, sub_sub x p q 4 (q - p) (by omega), show p + (q - p) = q by omega]
    rw [e1, e2, txtU]
    by_cases c : x.cps.getD p 0 = 85 ∧ x.cps.getD (p + 1) 0 = 82 ∧ x.cps.getD (p + 2) 0 = 76 ∧ x.cps.getD (p + 3) 0 = 58
    · obtain ⟨c0, c1, c2, c3⟩ := c
      rw [if_pos (show p + 4 ≤ q ∧ _ from ⟨hpq, c0, c1, c2, c3⟩), c0, c1, c2, c3, if_pos (by rw [beq_iff_eq])]
    · rw [if_neg, if_neg (fun e => c e.2)]
      rw [beq_iff_eq]
      intro h7
      injection h7 with h7
      injection h7 with h7
      injection h7 with e0 h7
      injection h7 with e1 h7
      injection h7 with e2 h7
      injection h7 with e3 _
      exact c ⟨e0, e1, e2, e3⟩
  · rw [if_neg, if_neg (fun e => hpq e.1)]
    rw [beq_iff_eq]
    intro e
    have hl := PyProof.Txt.length_slice_le (strSub x p q) none (some 4)
    rw [e, hs] at hl
    have : (Str.ofString "URL:").length = 4 := by decide +kernel
    omega
end PartPL3
section PartPL4
open PySem PySem.W PyProof.Rows PySem.Builtin.Str
theorem isA_len {x : Str} {ps : List Int} (h : isA x ps = true) : 1 < ps.length := by
  unfold isA at h
  rw [Bool.and_eq_true, decide_eq_true_eq] at h
  omega
theorem isU_len {x : Str} {ps : List Int} (h : isU x ps = true) : 3 < ps.length := by
  unfold isU at h
  rw [Bool.and_eq_true, decide_eq_true_eq] at h
  omega
theorem nextA_len (ps : List Int) (h : 1 < ps.length) : (nextA ps).length < ps.length := by
  unfold nextA
  rw [List.length_take, List.length_drop]; omega
theorem nextU_len (ps : List Int) (h : 3 < ps.length) : (nextU ps).length < ps.length := by
  unfold nextU
  rw [List.length_drop]; omega
/-- one layer, then what go gives of the rest -/
def layer (x : Str) (go : List Int → List Nat × List Str) (ps : List Int) : List Nat × List Str :=
  if isA x ps = true then (60 :: (go (nextA ps)).1, piece x ps :: (go (nextA ps)).2)
  else if isU x ps = true then (85 :: (go (nextU ps)).1, piece x ps :: (go (nextU ps)).2)
  else ([], [piece x ps])
/-- the layers and what is left, from the places on, in n layers at most -/
def runN (x : Str) (n : Nat) : List Int → List Nat × List Str := Nat.repeat (layer x) n fun ps => ([], [piece x ps])
/-- the layers and what is left, from the places on -/
def run (x : Str) (ps : List Int) : List Nat × List Str := runN x ps.length ps
theorem bool_no {b : Bool} (h : b = false) : ¬ b = true := by rw [h]; decide
theorem isA_nil {x : Str} {ps : List Int} (h : ps.length = 0) : isA x ps = false := by
  cases e : isA x ps with
  | false => rfl
  | true => have := isA_len e; omega
theorem isU_nil {x : Str} {ps : List Int} (h : ps.length = 0) : isU x ps = false := by
  cases e : isU x ps with
  | false => rfl
  | true => have := isU_len e; omega
theorem runN_A {x : Str} {n : Nat} {ps : List Int} (h : isA x ps = true) : runN x (n + 1) ps = (60 :: (runN x n (nextA ps)).1, piece x ps :: (runN x n (nextA ps)).2) := if_pos h
theorem runN_U {x : Str} {n : Nat} {ps : List Int} (h : isA x ps = false) (h' : isU x ps = true) : runN x (n + 1) ps = (85 :: (runN x n (nextU ps)).1, piece x ps :: (runN x n (nextU ps)).2) := (if_neg (bool_no h)).trans (if_pos h')
theorem runN_N {x : Str} {ps : List Int} (h : isA x ps = false) (h' : isU x ps = false) : ∀ n : Nat, runN x n ps = ([], [piece x ps])
  | 0 => rfl
  | _ + 1 => (if_neg (bool_no h)).trans (if_neg (bool_no h'))
theorem runN_any (x : Str) : ∀ (n : Nat) (ps : List Int), ps.length ≤ n → ∀ m, ps.length ≤ m → runN x n ps = runN x m ps := by
  intro n
  induction n with
  | zero =>
    intro ps h m _
    rw [runN_N (isA_nil (by omega)) (isU_nil (by omega)), runN_N (isA_nil (by omega)) (isU_nil (by omega))]
  | succ n ih =>
    intro ps h m hm
    cases eA : isA x ps with
    | true =>
      have l1 := isA_len eA
      have l2 := nextA_len ps l1
      obtain ⟨m, rfl⟩ : ∃ k, m = k + 1 := ⟨m - 1, by omega⟩
      rw [runN_A eA, runN_A eA, ih (nextA ps) (by omega) m (by omega)]
    | false =>
      cases eU : isU x ps with
      | true =>
        have l1 := isU_len eU
        have l2 := nextU_len ps l1
        obtain ⟨m, rfl⟩ : ∃ k, m = k + 1 := ⟨m - 1, by omega⟩
        rw [runN_U eA eU, runN_U eA eU, ih (nextU ps) (by omega) m (by omega)]
      | false => rw [runN_N eA eU, runN_N eA eU]
theorem run_A {x : Str} {ps : List Int} (h : isA x ps = true) : run x ps = (60 :: (run x (nextA ps)).1, piece x ps :: (run x (nextA ps)).2) := by
  have l1 := isA_len h
  have l2 := nextA_len ps l1
  unfold run
  rw [runN_any x (nextA ps).length (nextA ps) (Nat.le_refl _) (ps.length - 1) (by omega), ← runN_A h, show ps.length - 1 + 1 = ps.length by omega]
theorem run_U {x : Str} {ps : List Int} (h : isA x ps = false) (h' : isU x ps = true) : run x ps = (85 :: (run x (nextU ps)).1, piece x ps :: (run x (nextU ps)).2) := by
  have l1 := isU_len h'
  have l2 := nextU_len ps l1
  unfold run
  rw [runN_any x (nextU ps).length (nextU ps) (Nat.le_refl _) (ps.length - 1) (by omega), ← runN_U h h', show ps.length - 1 + 1 = ps.length by omega]
theorem run_N {x : Str} {ps : List Int} (h : isA x ps = false) (h' : isU x ps = false) : run x ps = ([], [piece x ps]) := runN_N h h' _
/-- the ways of one layer -/
structure Ok (r : List Nat × List Str) (k : Nat) : Prop where
  strip : Txt.strip (r.2.getD k Str.empty) = r.2.getD k Str.empty
  a : unwrapA (r.2.getD k Str.empty) = if r.1[k]? = some 60 then r.2.getD (k + 1) Str.empty else r.2.getD k Str.empty
  b : unwrapB (r.2.getD k Str.empty) = if r.1[k]? = some 85 then r.2.getD (k + 1) Str.empty else r.2.getD k Str.empty
structure RunOk (z : Str) (r : List Nat × List Str) : Prop where
  len : r.2.length = r.1.length + 1
  zero : r.2.getD 0 Str.empty = z
  ok : ∀ k, k ≤ r.1.length → Ok r k
theorem Ok.shift {l : List Nat} {ls : List Str} {k c : Nat} {z : Str} (h : Ok (l, ls) k) : Ok (c :: l, z :: ls) (k + 1) := ⟨h.strip, h.a, h.b⟩
theorem run_ok (x : Str) : ∀ (n p q : Nat), q - p ≤ n → Trim x p q → RunOk (piece x (places x p q)) (run x (places x p q)) := by
  intro n
  induction n with
  | zero => 
    intro p q hn h
    have h' := h
    obtain ⟨h1, h2, h3⟩ := h'
    have hA : isA x (places x p q) = false := by
      cases e : isA x (places x p q) with
      | false => rfl
      | true => have := (isA_iff h).mp e; omega
    have hU : isU x (places x p q) = false := by
      cases e : isU x (places x p q) with
      | false => rfl
      | true => have := (isU_iff h).mp e; omega
    rw [run_N hA hU, piece_is h]
    refine ⟨rfl, rfl, fun k hk => ?_⟩
    have : k = 0 := by simpa using hk
    subst this
    refine ⟨strip_trim h, ?_, ?_⟩
    · show unwrapA (strSub x p q) = strSub x p q
      rw [wrapA_is h1 h2, if_neg (by omega)]
    · show unwrapB (strSub x p q) = strSub x p q
      rw [wrapB_is h1 h2, if_neg (by omega)]
  | succ n ih =>
    intro p q hn h
    have h' := h
    obtain ⟨h1, h2, h3⟩ := h'
    cases eA : isA x (places x p q) with
    | true =>
      have hA := (isA_iff h).mp eA
      obtain ⟨eN, hlt⟩ := next_A h hA
      obtain ⟨p', q', hT, e1, e2, b1, b2⟩ := trim x hlt (show q - 1 ≤ x.length by omega)
      have IH := ih p' q' (by omega) hT
      rw [run_A eA, eN, e2, piece_is h]
      rw [piece_is hT] at IH
      refine ⟨by simp [IH.len], rfl, fun k hk => ?_⟩
      cases k with
      | zero =>
        refine ⟨strip_trim h, ?_, ?_⟩
        · show unwrapA (strSub x p q) = if some 60 = some 60 then (run x (places x p' q')).2.getD 0 Str.empty else strSub x p q
          rw [if_pos rfl, IH.zero, wrapA_is h1 h2, if_pos hA, e1]
        · show unwrapB (strSub x p q) = if some 60 = some 85 then _ else strSub x p q
          rw [if_neg (by decide), wrapB_is h1 h2, if_neg (by omega)]
      | succ k => exact (IH.ok k (by simpa using hk)).shift
    | false =>
      have hA : ¬ (p < q ∧ x.cps.getD p 0 = 60 ∧ x.cps.getD (q - 1) 0 = 62) := fun c => by
        have := (isA_iff h).mpr c; rw [eA] at this; exact absurd this (by decide)
      cases eU : isU x (places x p q) with
      | true =>
        have hU := (isU_iff h).mp eU
        have eN := next_U h hU
        obtain ⟨p', q', hT, e1, e2, b1, b2⟩ := trim x (show p + 4 ≤ q from hU.1) h2
        have IH := ih p' q' (by omega) hT
        rw [run_U eA eU, eN, e2, piece_is h]
        rw [piece_is hT] at IH
        refine ⟨by simp [IH.len], rfl, fun k hk => ?_⟩
        cases k with
        | zero =>
          refine ⟨strip_trim h, ?_, ?_⟩
          · show unwrapA (strSub x p q) = if some 85 = some 60 then _ else strSub x p q
            rw [if_neg (by decide), wrapA_is h1 h2, if_neg hA]
          · show unwrapB (strSub x p q) = if some 85 = some 85 then (run x (places x p' q')).2.getD 0 Str.empty else strSub x p q
            rw [if_pos rfl, IH.zero, wrapB_is h1 h2, if_pos hU, e1]
        | succ k => exact (IH.ok k (by simpa using hk)).shift
      | false =>
        have hU : ¬ (p + 4 ≤ q ∧ x.cps.getD p 0 = 85 ∧ x.cps.getD (p + 1) 0 = 82 ∧ x.cps.getD (p + 2) 0 = 76 ∧ x.cps.getD (p + 3) 0 = 58) := fun c => by
          have := (isU_iff h).mpr c; rw [eU] at this; exact absurd this (by decide)
        rw [run_N eA eU, piece_is h]
        refine ⟨rfl, rfl, fun k hk => ?_⟩
        have : k = 0 := by simpa using hk
        subst this
        refine ⟨strip_trim h, ?_, ?_⟩
        · show unwrapA (strSub x p q) = strSub x p q
          rw [wrapA_is h1 h2, if_neg hA]
        · show unwrapB (strSub x p q) = strSub x p q
          rw [wrapB_is h1 h2, if_neg hU]
/-- the whole text -/
theorem run_text (x : Str) : RunOk (Txt.strip x) (run x (places x 0 x.length)) := by
  obtain ⟨p, q, hT, e1, e2, _, _⟩ := trim x (Nat.zero_le x.length) (Nat.le_refl _)
  rw [strSub_whole] at e1
  rw [e1, e2, ← piece_is hT]
  exact run_ok x _ p q (Nat.le_refl _) hT
/-- one call of unwrap, from the layer k on -/
def offA (l : List Nat) (k : Nat) : Nat := if l[k]? = some 60 then k + 1 else k
def offU (l : List Nat) (k : Nat) : Nat := if l[k]? = some 85 then k + 1 else k
theorem off_le {l : List Nat} {k c : Nat} (h : k ≤ l.length) : (if l[k]? = some c then k + 1 else k) ≤ l.length := by
  split
  · rename_i e
    have := (List.getElem?_eq_some_iff.mp e).1
    omega
  · exact h
theorem unwrap_step {z : Str} {r : List Nat × List Str} (h : RunOk z r) {told : Str} {k : Nat} (hk : k ≤ r.1.length) (ht : Txt.strip told = r.2.getD k Str.empty) :
    offU r.1 (offA r.1 k) ≤ r.1.length ∧ unwrapS told = r.2.getD (offU r.1 (offA r.1 k)) Str.empty ∧ Txt.strip (unwrapS told) = r.2.getD (offU r.1 (offA r.1 k)) Str.empty := by
  have h1 : offA r.1 k ≤ r.1.length := off_le hk
  have h2 : offU r.1 (offA r.1 k) ≤ r.1.length := off_le h1
  have ea : unwrapA (Txt.strip told) = r.2.getD (offA r.1 k) Str.empty := by
    rw [ht, (h.ok k hk).a]; unfold offA; split <;> rfl
  have eb : unwrapS told = r.2.getD (offU r.1 (offA r.1 k)) Str.empty := by
    unfold unwrapS
    rw [ea, (h.ok _ h1).b]; unfold offU; split <;> rfl
  exact ⟨h2, eb, by rw [eb, (h.ok _ h2).strip]⟩
/-- a sign of the layers, as the law asks for it -/
theorem sign_is (lay : Str) (k c : Nat) (hk : k ≤ lay.length) (y : Str) (hy : y = ⟨#[c]⟩) : ((Txt.slice lay (some (k : Int)) (some ((k : Int) + 1)) == y) = true) ↔ lay.cps.toList[k]? = some c := by
  subst hy
  rw [beq_iff_eq]
  have hl : lay.cps.toList.length = lay.length := Array.length_toList
  by_cases h : k < lay.length
  · rw [slice_int lay _ _ k (k + 1) rfl (by omega) (by omega) (by omega), sub_one lay k h, ← getD_list]
    rw [List.getElem?_eq_getElem (by omega), List.getD, List.getElem?_eq_getElem (by omega)]
    constructor
    · intro e
      injection e with e
      injection e with e
      injection e with e _
      rw [← e]; rfl
    · intro e
      have := Option.some.inj e
      rw [← this]; rfl
  · have h0 := slice_past lay (k : Int) (by omega)
    constructor
    · intro e
      rw [e] at h0
      exact absurd h0 (by show ¬ (1 = 0); decide)
    · intro e
      have := (List.getElem?_eq_some_iff.mp e).1
      omega
end PartPL4
section PartM3
open PySem PySem.W PyProof.Rows
theorem blank_lo (k : Nat) : 0 ≤ blanksL.getD k 0 := by
  by_cases h : k < 29
  · exact (by decide +kernel : ∀ k, k < 29 → 0 ≤ blanksL.getD k 0) k h
  · rw [List.getD_eq_getElem?_getD, List.getElem?_eq_none (Nat.not_lt.mp h)]; decide
theorem blank_hi (k : Nat) : blanksL.getD k 0 ≤ 1114111 := by
  by_cases h : k < 29
  · exact (by decide +kernel : ∀ k, k < 29 → blanksL.getD k 0 ≤ 1114111) k h
  · rw [List.getD_eq_getElem?_getD, List.getElem?_eq_none (Nat.not_lt.mp h)]; decide
section
variable {prog : Program} {w : World} {A : Around} {E : Value → Shared → Prop} {s : Shared} {h₀ : Heap} {L : Addr} {m : Str → Option Value} {news : List (Addr × Obj)} {Q : Value → Shared → Prop}
theorem chrG {i : Int} {t : Tok} (h0 : 0 ≤ i) (h1 : i ≤ 1114111) (h : ∀ (y : Str) t' k, y.length = 1 → Q (.str y t') { s with toks := k }) : wpAny (model prog w) A (call (.builtin "chr") [.int i t]) Q E s := chr_of_range h0 h1 (h _ _ _ rfl)
theorem signG {value slice : PySem.Expr} {x : Str} {t u : Tok} {i : Int} (h0 : 0 ≤ i) (h1 : i < (x.length : Int)) (hx : x.length ≤ 1000) (h : ∀ (y : Str) t' k, y.length = 1 → Q (.str y t') { s with toks := k })
    (hs : subscripted slice false (.str x t) (.int i u) = operate [.str x t, .int i u] (getItem (.str x t) (.int i u)) := by with_unfolding_all rfl)
    (ht : ∀ r, letTemporaryGo value (.str x t) r = pure () := by intro _; with_unfolding_all rfl) :
    wpAny (model prog w) A (subscriptTail value slice (.str x t) (.int i u)) Q E s :=
  item_str (fitsSsize_of (N := 9223372036854775808) (by omega) (by omega) (Int.le_refl _)) (by omega) h1 (fun e => h _ _ _ (by omega)) hs ht
end
local macro_rules | `(tactic| walk_at "call builtin:chr") => `(tactic| (k_here; (with_reducible show wpAny _ _ (call (Value.builtin "chr") [Value.int _ _]) _ _ _); (refine chrG ?a ?b ?_; (case a => first | exact blank_lo _ | exact fmod_lo _ (by decide)); (case b => first | exact blank_hi _ | exact Int.le_of_lt_add_one (fmod_hi _ (by decide)))); intro y' t' k' hy'))
local macro_rules | `(tactic| walk_at "subscriptTail") => `(tactic| (k_here; (with_reducible show wpAny _ _ (subscriptTail _ _ (Value.str _ _) (Value.int _ _)) _ _ _); (refine signG ?a ?b ?c ?_; (case a => exact fmod_lo _ (by decide)); (case b => exact fmod_hi _ (by decide)); (case c => decide)); intro y' t' k' hy'))
local macro_rules | `(tactic| walk_at "call ref") => `(tactic| (k_here; (with_reducible show wpAny _ _ (call (Value.ref 28) _) _ _ _); (with_unfolding_all refine' blanks_call ?k1 ?k2 ?k3 ?k4 ?k5 ?kK ?kd ?ku ?kR); (case k1 => k_asm); (case k2 => k_asm); (case k3 => k_asm); (case k4 => k_asm); (case k5 => k_asm); (case kK => first | exact rfl | assumption); (case kd => ktr_room); (case ku => ktr_units); (intro l' vs' nn' h' tk' hI' F' N' l1); (try dsimp only); (try k_lt l1); (try k_fold)))
set_option maxHeartbeats 2000000 in
theorem text_call : ∀ {w : World} {mean : ExcName → Option Value} {mg mb : Str → Option Value} {dp un : Nat} {gd : Option (List Code)} {cn : Str} {cs : Scope} {a : Addr} {ccd : Value} {cl : List (Str × Addr)} {outer : List Env} {A₀ : Around} {base h₀ : Heap} {L : Addr} {m : Str → Option Value} {news : List (Addr × Obj)} {s : Shared} {Q E : Value → Shared → Prop} {l : Addr} {vs : List Value} {ns : List Int},
    Below A₀ base outer h₀ → Fr h₀ L s.heap m → (hd0236.heap_39 w.params).In h₀ → News h₀ L s.heap news → Top hd0236.view_39 (looseW hd0236.view_39 []) mean mg mb h₀ → cs.kind = .function → dp + 2 < recursionLimit → un + 16 < cLine →
    base.IsList l vs.toArray → IntsAre vs ns → ns.length ≤ 63 →
    (∀ y t' h' tk', y.length ≤ 257 → Fr h₀ L h' m → News h₀ L h' news → Q (.str y t') { s with heap := h', toks := tk' }) →
    wpAny (model Challenge.rw_dn0236_01.row.prog w) (ktrTop dp un gd cn cs L a ccd cl outer) (call (.ref 35) [.ref l]) Q E s := by
  w_top off
  k_fill
  intro w mean mg mb dp un gd cn cs a ccd cl outer A₀ base h₀ L m news s Q E l vs ns B F X N T hk hd hu hl hi hlen ret
  k_with_none
  (k_with "pyIter ref" => k_state (fun pre text => text.length ≤ 5 + 4 * pre.length) "text")
  refine wpAny_call ?_
  k_dflt cell_enter
  k_steps
  exact ret _ _ _ _ (by omega) (by assumption) (by assumption)
end PartM3
section PartM4
open PySem PySem.W PyProof.Rows
theorem blanks_callD : ∀ {w : World} {mean : ExcName → Option Value} {mg mb : Str → Option Value} {dp un : Nat} {gd : Option (List Code)} {cn : Str} {cs : Scope} {a : Addr} {ccd : Value} {cl : List (Str × Addr)} {outer : List Env} {A₀ : Around} {base h₀ : Heap} {L : Addr} {m : Str → Option Value} {news : List (Addr × Obj)} {s : Shared} {Q E : Value → Shared → Prop},
    Below A₀ base outer h₀ → Fr h₀ L s.heap m → (hd0236.heap_39 w.params).In h₀ → News h₀ L s.heap news → Top hd0236.view_39 (looseW hd0236.view_39 []) mean mg mb h₀ → cs.kind = .function → dp + 1 < recursionLimit → un + 8 < cLine →
    (∀ l (vs : List Value) h' tk', IntsAre vs blanksL → h'.IsList l vs.toArray → Fr h₀ L h' m → News h₀ L h' news → Q (.ref l) { s with heap := h', toks := tk' }) →
    wpAny (model Challenge.rw_dn0236_01.row.prog w) (ktrTop dp un gd cn cs L a ccd cl outer) (call (.ref 28) []) Q E s :=
  fun B F X N T hk hd hu ret => blanks_call B F X N T hk hd hu fun l vs nn h' tk' hI F' N' _ => ret l vs h' tk' hI ⟨_, (N' _ (.head _)).1, rfl, _, rfl⟩ F' fun p hp => N' p (.tail _ hp)
/-- the state of the while -/
structure LS where
  lay : Str
  tl : Tok
  pa : Addr
  pvs : List Value
  ps : List Int
  pn : Nat
  lf : Addr
  lvs : List Value
  ls : List Str
  ln : Nat
abbrev LS.led (ca : Addr) (oc : Obj) (c : LS) : List (Addr × Obj) := [(c.lf, W.listOf c.lvs.toArray c.ln), (c.pa, W.listOf c.pvs.toArray c.pn), (ca, oc)]
abbrev LS.names (c : LS) : List (Str × Value) := [(Str.ofString "layers", .str c.lay c.tl), (Str.ofString "left", .ref c.lf), (Str.ofString "places", .ref c.pa)]
abbrev LS.facts (ca : Addr) (c : LS) : Prop := IntsAre c.pvs c.ps ∧ StrsAre c.lvs c.ls ∧ @Ne Nat c.lf c.pa ∧ @Ne Nat c.lf ca ∧ @Ne Nat c.pa ca
section
variable {prog : Program} {w : World} {A : Around} {E : Value → Shared → Prop} {Q : Flow → Shared → Prop} {s : Shared} {env : Env} {h₀ : Heap} {L : Addr}
theorem while_layers {test : PySem.Expr} {body : List Stmt} {pos : Pos} {m₀ : Str → Option Value} {ca lf pa tp : Addr} {oc otp : Obj} {pvs : List Value} {ps : List Int} {pn : Nat} {tl : Tok} (P : LS → Prop) (μ : LS → Nat)
    (F : Fr h₀ L s.heap m₀) (N : News h₀ L s.heap [(tp, otp), (lf, W.listOf #[] 0), (pa, W.listOf pvs.toArray pn), (ca, oc)]) (hI : IntsAre pvs ps) (n1 : @Ne Nat lf pa) (n2 : @Ne Nat lf ca) (n3 : @Ne Nat pa ca)
    (m1 : m₀ (Str.ofString "layers") = some (.str (Str.ofString "") tl)) (m2 : m₀ (Str.ofString "left") = some (.ref lf)) (m3 : m₀ (Str.ofString "places") = some (.ref pa))
    (hp : P ⟨Str.ofString "", tl, pa, pvs, ps, pn, lf, [], [], 0⟩)
    (turn : ∀ (lay : Str) (tl : Tok) (pa : Addr) (pvs : List Value) (ps : List Int) (pn : Nat) (lf : Addr) (lvs : List Value) (ls : List Str) (ln : Nat) h tk, IntsAre pvs ps → StrsAre lvs ls → @Ne Nat lf pa → @Ne Nat lf ca → @Ne Nat pa ca → P ⟨lay, tl, pa, pvs, ps, pn, lf, lvs, ls, ln⟩ →
      Fr h₀ L h (fun z => if z = Str.ofString "layers" then some (.str lay tl) else if z = Str.ofString "left" then some (.ref lf) else if z = Str.ofString "places" then some (.ref pa) else m₀ z) → News h₀ L h [(lf, W.listOf lvs.toArray ln), (pa, W.listOf pvs.toArray pn), (ca, oc)] →
      wpAny (model prog w) A (isTrue test env (eval test env)) (fun b s₂ =>
        if b = true then wpAny (model prog w) A (execs body env) (KswPost h₀ L s (LS.led ca oc) LS.names (LS.facts ca) [] m₀ P μ Q ⟨lay, tl, pa, pvs, ps, pn, lf, lvs, ls, ln⟩) E s₂ else Q .next s₂) E { s with heap := h, toks := tk })
    (hE : PassesOwn (model prog w) A env E := by passes_own) :
    wpAny (model prog w) A (exec (.While test body [] pos) env) Q E s := by
  refine ksw_while (LS.led ca oc) LS.names (LS.facts ca) [] P μ ⟨Str.ofString "", tl, pa, pvs, ps, pn, lf, [], [], 0⟩ F (fun p hp => N p (.tail _ hp)) ⟨hI, .nil, n1, n2, n3⟩ ?_ hp ?_ hE
  · intro p hp
    simp only [LS.names, List.mem_cons, List.not_mem_nil, or_false] at hp
    rcases hp with rfl | rfl | rfl
    · exact m1
    · exact m2
    · exact m3
  · rintro ⟨lay, tl, pa, pvs, ps, pn, lf, lvs, ls, ln⟩ u h tk ⟨f1, f2, f3, f4, f5⟩ hP F' N'
    exact turn lay tl pa pvs ps pn lf lvs ls ln h tk f1 f2 f3 f4 f5 hP F' N'
theorem turn_end {m₀ m' : Str → Option Value} {ca : Addr} {oc : Obj} {P : LS → Prop} {μ : LS → Nat} {c : LS} {h' : Heap} {tk : Nat} {news' : List (Addr × Obj)} (lay : Str) (tl : Tok) (pa : Addr) (pvs : List Value) (ps : List Int) (pn : Nat) (lf : Addr) (lvs : List Value) (ls : List Str) (ln : Nat)
    (F : Fr h₀ L h' m') (N : News h₀ L h' news') (m1 : m' (Str.ofString "layers") = some (.str lay tl)) (m2 : m' (Str.ofString "left") = some (.ref lf)) (m3 : m' (Str.ofString "places") = some (.ref pa))
    (h1 : (lf, W.listOf lvs.toArray ln) ∈ news') (h2 : (pa, W.listOf pvs.toArray pn) ∈ news') (h3 : (ca, oc) ∈ news') (hI : IntsAre pvs ps) (hS : StrsAre lvs ls) (n1 : @Ne Nat lf pa) (n2 : @Ne Nat lf ca) (n3 : @Ne Nat pa ca)
    (hr : ∀ z, z ≠ Str.ofString "layers" → z ≠ Str.ofString "left" → z ≠ Str.ofString "places" → m' z = m₀ z) (hpm : P ⟨lay, tl, pa, pvs, ps, pn, lf, lvs, ls, ln⟩ ∧ μ ⟨lay, tl, pa, pvs, ps, pn, lf, lvs, ls, ln⟩ < μ c) :
    KswEnd h₀ L s (LS.led ca oc) LS.names (LS.facts ca) [] m₀ P μ c { s with heap := h', toks := tk } := by
  refine ksw_end ⟨lay, tl, pa, pvs, ps, pn, lf, lvs, ls, ln⟩ F N ?_ ⟨hI, hS, n1, n2, n3⟩ ?_ ?_ hpm.1 hpm.2
  · intro p hp
    simp only [LS.led, List.mem_cons, List.not_mem_nil, or_false] at hp
    rcases hp with rfl | rfl | rfl
    · exact h1
    · exact h2
    · exact h3
  · intro p hp
    simp only [LS.names, List.mem_cons, List.not_mem_nil, or_false] at hp
    rcases hp with rfl | rfl | rfl
    · exact m1
    · exact m2
    · exact m3
  · intro z hz _
    exact hr z (hz _ (.head _)) (hz _ (.tail _ (.head _))) (hz _ (.tail _ (.tail _ (.head _))))
end
section
variable {prog : Program} {w : World} {A : Around} {E : Value → Shared → Prop} {s : Shared} {Q : Value → Shared → Prop}
theorem ne_nil {a b : Addr} {vs : List Value} {ns : List Int} (hl : s.heap.IsList a vs.toArray) (hi : IntsAre vs ns) (hl' : s.heap.IsList b ([] : List Value).toArray) (hu : A.units + 64 < cLine)
    (h : Q (.bool (decide ((0 : Int) < (ns.length : Int)))) s) : wpAny (model prog w) A (compareOp .NotEq (.ref a) (.ref b)) Q E s := by
  refine ne_intsK (us := []) (ms := []) hl hi hl' .nil hu ?_
  have e : (!decide (ns = [])) = decide ((0 : Int) < (ns.length : Int)) := by
    cases ns with
    | nil => rfl
    | cons n r => simp
  rw [e]; exact h
theorem place_in {x : Str} {ps : List Int} {k : Nat} (hb : ∀ p ∈ ps, 0 ≤ p ∧ p < (x.length : Int)) (hk : k < ps.length) : 0 ≤ ps.getD k 0 ∧ ps.getD k 0 < (x.length : Int) := by
  have e : ps.getD k 0 = ps[k] := by simp [List.getD, hk]
  rw [e]; exact hb _ (List.getElem_mem hk)
theorem signP {value slice : PySem.Expr} {x : Str} {t u : Tok} {ps : List Int} {k : Nat} (hb : ∀ p ∈ ps, 0 ≤ p ∧ p < (x.length : Int)) (hk : k < ps.length) (hx : x.length ≤ 1000) (h : Q (.str (Txt.item x (ps.getD k 0)) s.toks) { s with toks := s.toks + 1 })
    (hs : subscripted slice false (.str x t) (.int (ps.getD k 0) u) = operate [.str x t, .int (ps.getD k 0) u] (getItem (.str x t) (.int (ps.getD k 0) u)) := by with_unfolding_all rfl)
    (ht : ∀ r, letTemporaryGo value (.str x t) r = pure () := by intro _; with_unfolding_all rfl) :
    wpAny (model prog w) A (subscriptTail value slice (.str x t) (.int (ps.getD k 0) u)) Q E s := by
  obtain ⟨h0, h1⟩ := place_in hb hk
  exact item_str (fitsSsize_of (N := 9223372036854775808) (by omega) (by omega) (Int.le_refl _)) (by omega) h1 (fun _ => h) hs ht
end
/-- what holds between the turns -/
def LGo (x : Str) (R : List Nat × List Str) (lay : Str) (ps : List Int) (ls : List Str) : Prop :=
  (ls.length = lay.length ∧ ls.length + ps.length ≤ 257 ∧ lay.cps.toList ++ (run x ps).1 = R.1 ∧ ls ++ (run x ps).2 = R.2) ∨ (ls.length = lay.length + 1 ∧ lay.cps.toList = R.1 ∧ ls = R.2)
def LInv (x : Str) (R : List Nat × List Str) (c : LS) : Prop := c.ls.length + c.ps.length ≤ 258 ∧ c.lay.length ≤ 258 ∧ (∀ p ∈ c.ps, 0 ≤ p ∧ p < (x.length : Int)) ∧ LGo x R c.lay c.ps c.ls
def LMeas (c : LS) : Nat := if c.ls.length = c.lay.length then c.ps.length + 1 else 0
theorem strs_snoc {y z : Str} {t : Tok} : ∀ {vs : List Value} {ys : List Str}, StrsAre vs ys → y = z → StrsAre (vs ++ [.str y t]) (ys ++ [z])
  | _, _, .nil, e => by subst e; exact .cons _ _ .nil
  | _, _, .cons a b r, e => .cons a b (strs_snoc r e)
theorem lay_snoc (lay y : Str) (c : Nat) (hy : y = ⟨#[c]⟩) : (lay ++ y).cps.toList = lay.cps.toList ++ [c] ∧ (lay ++ y).length = lay.length + 1 := by
  subst hy
  exact ⟨KT.app_list _ _, by rw [PySem.Str.length_append]; rfl⟩
section
variable {x lay : Str} {R : List Nat × List Str} {ps : List Int} {ls : List Str} {tl tl' : Tok} {pa lf pa' lf' : Addr} {pvs lvs pvs' lvs' : List Value} {pn ln pn' ln' : Nat}
theorem isA_of (h1 : (1 : Int) < (ps.length : Int)) (h2 : (Txt.item x (ps.getD (Int.toNat 0) 0) ++ Txt.item x (ps.getD (-1 + (ps.length : Int)).toNat 0) == Str.ofString "<>") = true) : isA x ps = true := by
  unfold isA; rw [decide_eq_true h1, h2]; rfl
theorem isA_not (h2 : (Txt.item x (ps.getD (Int.toNat 0) 0) ++ Txt.item x (ps.getD (-1 + (ps.length : Int)).toNat 0) == Str.ofString "<>") = false) : isA x ps = false := by
  unfold isA; rw [h2, Bool.and_false]
theorem isA_short (h1 : ¬ (1 : Int) < (ps.length : Int)) : isA x ps = false := by
  unfold isA; rw [decide_eq_false h1]; rfl
theorem isU_of (h1 : (3 : Int) < (ps.length : Int)) (h2 : (Txt.slice x (some (ps.getD (Int.toNat 0) 0)) (some (ps.getD (Int.toNat 3) 0 + 1)) == Str.ofString "URL:") = true) : isU x ps = true := by
  unfold isU; rw [decide_eq_true h1, h2]; rfl
theorem isU_not (h2 : (Txt.slice x (some (ps.getD (Int.toNat 0) 0)) (some (ps.getD (Int.toNat 3) 0 + 1)) == Str.ofString "URL:") = false) : isU x ps = false := by
  unfold isU; rw [h2, Bool.and_false]
theorem isU_short (h1 : ¬ (3 : Int) < (ps.length : Int)) : isU x ps = false := by
  unfold isU; rw [decide_eq_false h1]; rfl
theorem piece_of (h : (0 : Int) < (ps.length : Int)) : Txt.slice x (some (ps.getD (Int.toNat 0) 0)) (some (ps.getD (-1 + (ps.length : Int)).toNat 0 + 1)) = piece x ps := by
  unfold piece; rw [if_pos h]
theorem piece_nil (h : ¬ (0 : Int) < (ps.length : Int)) : Str.ofString "" = piece x ps := by
  unfold piece; rw [if_neg h]
theorem go_layer {c : Nat} {y : Str} {ps' : List Int} (b2 : lay.length ≤ 258) (b4 : ∀ p ∈ ps, 0 ≤ p ∧ p < (x.length : Int)) (g : LGo x R lay ps ls) (hl : (ls.length : Int) = (lay.length : Int)) (hy : y = ⟨#[c]⟩)
    (hr : run x ps = (c :: (run x ps').1, piece x ps :: (run x ps').2)) (hlen : ps'.length < ps.length) (hsub : ∀ p ∈ ps', p ∈ ps) :
    LInv x R ⟨lay ++ y, tl', pa', pvs', ps', pn', lf', lvs', ls ++ [piece x ps], ln'⟩ ∧ LMeas ⟨lay ++ y, tl', pa', pvs', ps', pn', lf', lvs', ls ++ [piece x ps], ln'⟩ < LMeas ⟨lay, tl, pa, pvs, ps, pn, lf, lvs, ls, ln⟩ := by
  obtain ⟨e1, e2⟩ := lay_snoc lay y c hy
  rcases g with ⟨g1, g2, g3, g4⟩ | ⟨g1, _, _⟩
  · refine ⟨⟨?_, ?_, fun p hp => b4 p (hsub p hp), .inl ⟨?_, ?_, ?_, ?_⟩⟩, ?_⟩
    · simp only [List.length_append, List.length_cons, List.length_nil]; omega
    · show (lay ++ y).length ≤ 258
      omega
    · simp only [List.length_append, List.length_cons, List.length_nil]; omega
    · simp only [List.length_append, List.length_cons, List.length_nil]; omega
    · rw [hr] at g3
      rw [e1, List.append_assoc]; exact g3
    · rw [hr] at g4
      rw [List.append_assoc]; exact g4
    · unfold LMeas
      simp only [List.length_append, List.length_cons, List.length_nil]
      rw [if_pos (by omega), if_pos (by omega)]; omega
  · omega
theorem go_A (b2 : lay.length ≤ 258) (b4 : ∀ p ∈ ps, 0 ≤ p ∧ p < (x.length : Int)) (g : LGo x R lay ps ls) (hl : (ls.length : Int) = (lay.length : Int)) (h : isA x ps = true) :
    LInv x R ⟨lay ++ Str.ofString "<", tl', pa', pvs', nextA ps, pn', lf', lvs', ls ++ [piece x ps], ln'⟩ ∧ LMeas ⟨lay ++ Str.ofString "<", tl', pa', pvs', nextA ps, pn', lf', lvs', ls ++ [piece x ps], ln'⟩ < LMeas ⟨lay, tl, pa, pvs, ps, pn, lf, lvs, ls, ln⟩ :=
  go_layer b2 b4 g hl txtL (run_A h) (nextA_len ps (isA_len h)) fun p hp => List.mem_of_mem_drop (List.mem_of_mem_take hp)
theorem go_U (b2 : lay.length ≤ 258) (b4 : ∀ p ∈ ps, 0 ≤ p ∧ p < (x.length : Int)) (g : LGo x R lay ps ls) (hl : (ls.length : Int) = (lay.length : Int)) (h : isA x ps = false) (h' : isU x ps = true) :
    LInv x R ⟨lay ++ Str.ofString "U", tl', pa', pvs', nextU ps, pn', lf', lvs', ls ++ [piece x ps], ln'⟩ ∧ LMeas ⟨lay ++ Str.ofString "U", tl', pa', pvs', nextU ps, pn', lf', lvs', ls ++ [piece x ps], ln'⟩ < LMeas ⟨lay, tl, pa, pvs, ps, pn, lf, lvs, ls, ln⟩ :=
  go_layer b2 b4 g hl txt1U (run_U h h') (nextU_len ps (isU_len h')) fun p hp => List.mem_of_mem_drop hp
theorem go_N (b2 : lay.length ≤ 258) (b4 : ∀ p ∈ ps, 0 ≤ p ∧ p < (x.length : Int)) (g : LGo x R lay ps ls) (hl : (ls.length : Int) = (lay.length : Int)) (h : isA x ps = false) (h' : isU x ps = false) :
    LInv x R ⟨lay, tl', pa', pvs', ps, pn', lf', lvs', ls ++ [piece x ps], ln'⟩ ∧ LMeas ⟨lay, tl', pa', pvs', ps, pn', lf', lvs', ls ++ [piece x ps], ln'⟩ < LMeas ⟨lay, tl, pa, pvs, ps, pn, lf, lvs, ls, ln⟩ := by
  rcases g with ⟨g1, g2, g3, g4⟩ | ⟨g1, _, _⟩
  · refine ⟨⟨?_, b2, b4, .inr ⟨?_, ?_, ?_⟩⟩, ?_⟩
    · simp only [List.length_append, List.length_cons, List.length_nil]; omega
    · simp only [List.length_append, List.length_cons, List.length_nil]; omega
    · rw [run_N h h'] at g3
      simpa using g3
    · rw [run_N h h'] at g4
      exact g4
    · unfold LMeas
      simp only [List.length_append, List.length_cons, List.length_nil]
      rw [if_neg (by omega), if_pos (by omega)]; omega
  · omega
theorem go_start (hx : x.length ≤ 257) : LInv x (run x ((rangeKs 0 (((x.length : Int) - 0).toNat)).foldl (placeG x) [])) ⟨Str.ofString "", tl, pa, pvs, (rangeKs 0 (((x.length : Int) - 0).toNat)).foldl (placeG x) [], pn, lf, lvs, [], ln⟩ := by
  have e : ((x.length : Int) - 0).toNat = x.length := by omega
  rw [e, fold_places x _ (Nat.le_refl _)]
  have hl := places_len x 0 x.length
  have h0 : (Str.ofString "").cps = #[] := by decide +kernel
  have h1 : (Str.ofString "").length = 0 := by decide +kernel
  refine ⟨by simp only [List.length_nil]; omega, by show (Str.ofString "").length ≤ 258; omega, fun p hp => ?_, .inl ⟨by simp only [List.length_nil]; omega, by simp only [List.length_nil]; omega, ?_, rfl⟩⟩
  · obtain ⟨m1, m2⟩ := places_mem x hp
    exact ⟨by omega, m2⟩
  · show (Str.ofString "").cps.toList ++ _ = _
    rw [h0]; rfl
theorem go_end (g : LGo x (run x ((rangeKs 0 (((x.length : Int) - 0).toNat)).foldl (placeG x) [])) lay ps ls) (hl : (ls.length : Int) ≠ (lay.length : Int)) : lay.cps.toList = (run x (places x 0 x.length)).1 ∧ ls = (run x (places x 0 x.length)).2 := by
  have e : ((x.length : Int) - 0).toNat = x.length := by omega
  rw [e, fold_places x _ (Nat.le_refl _)] at g
  rcases g with ⟨g1, _, _, _⟩ | ⟨_, g2, g3⟩
  · omega
  · exact ⟨g2, g3⟩
end
local macro_rules | `(tactic| walk_at "call ref") => `(tactic| (k_here; (with_reducible show wpAny _ _ (call (Value.ref 28) _) _ _ _); (with_unfolding_all refine' blanks_callD ?k1 ?k2 ?k3 ?k4 ?k5 ?kK ?kd ?ku ?kR); (case k1 => k_asm); (case k2 => k_asm); (case k3 => k_asm); (case k4 => k_asm); (case k5 => k_asm); (case kK => first | exact rfl | assumption); (case kd => ktr_room); (case ku => ktr_units); (intro l' vs' h' tk' hI' hL' F' N'); (try dsimp only); (try k_fold)))
local macro_rules | `(tactic| walk_at "compareOp NotEq ref ref") => `(tactic| (k_here; (with_reducible show wpAny _ _ (compareOp CmpOp.NotEq (Value.ref _) (Value.ref _)) _ _ _); (with_unfolding_all refine' ne_nil ?k1 ?k2 ?k3 ?k5 ?_; (case k1 => is_list); (case k2 => assumption); (case k3 => is_list); (case k5 => ktr_units); k_whole)))
local macro_rules | `(tactic| walk_at "subscriptTail") => `(tactic| (k_here; (with_reducible show wpAny _ _ (subscriptTail _ _ (Value.str _ _) (Value.int (List.getD _ _ _) _)) _ _ _); (with_unfolding_all refine' signP ?k1 ?k2 ?k3 ?_; (case k1 => assumption); (case k2 => omega); (case k3 => omega))))
local macro_rules | `(tactic| walk_at "KCiEl") => `(tactic| (refine kci_el ?kce (by with_unfolding_all rfl) (by with_unfolding_all rfl); (case kce => exact placeG_no (by assumption))))
local macro_rules | `(tactic| walk_at "KCiNo") => `(tactic| (refine kci_no ?kce (by with_unfolding_all rfl); (case kce => exact placeG_yes (by assumption))))
local macro_rules | `(tactic| walk_at "CompSrcT") => `(tactic| k_extra "mycomp")
local macro_rules | `(tactic| walk_at "exec While Compare cons nil") => `(tactic| k_extra "mywhile")
set_option maxHeartbeats 2000000 in
theorem layers_call : ∀ {w : World} {mean : ExcName → Option Value} {mg mb : Str → Option Value} {dp un : Nat} {gd : Option (List Code)} {cn : Str} {cs : Scope} {a : Addr} {ccd : Value} {cl : List (Str × Addr)} {outer : List Env} {A₀ : Around} {base h₀ : Heap} {L : Addr} {m : Str → Option Value} {s : Shared} {Q E : Value → Shared → Prop} {x : Str} {t : Tok},
    Below A₀ base outer h₀ → Fr h₀ L s.heap m → (hd0236.heap_39 w.params).In h₀ → News h₀ L s.heap [] → Top hd0236.view_39 (looseW hd0236.view_39 []) mean mg mb h₀ → cs.kind = .function → dp + 4 < recursionLimit → un + 400 < cLine →
    x.length ≤ 257 →
    (∀ tp lay tl lf (lvs : List Value) n1 n2 h' tk', StrsAre lvs (run x (places x 0 x.length)).2 → lay.cps.toList = (run x (places x 0 x.length)).1 → lay.length ≤ 258 → @Ne Nat tp lf → Fr h₀ L h' m → News h₀ L h' [(tp, { cls := .type "tuple", data := .seq #[.str lay tl, .ref lf] n1 }), (lf, W.listOf lvs.toArray n2)] → Q (.ref tp) { s with heap := h', toks := tk' }) →
    wpAny (model Challenge.rw_dn0236_01.row.prog w) (ktrTop dp un gd cn cs L a ccd cl outer) (call (.ref 40) [.str x t]) Q E s := by
  w_top off
  k_fill
  intro w mean mg mb dp un gd cn cs a ccd cl outer A₀ base h₀ L m s Q E x t B F X N T hk hd hu hx ret
  k_with_none
  (k_with "mycomp" => (k_here; k_dflt (refine LCt.CompSrcT.range (by rfl) (by k_asm) (by k_asm) (by assumption) (by exact small_one (by l_bnd) (by l_bnd) (by l_bnd) (by l_bnd)) (by exact rangeSize_nat _ _) (by rw [PySem.sizeLine_eq]; omega) ?_; intro g1; (refine' kci_range (placeG x) (fun k' t' I' oI' C' oC' D' m' ys' l' h' tk' E' hlo' hhi' hI' hC' hx' F' N' off' ne' => ?_) ?_ (placeG_grows x)); (all_goals (try (simp only [LCg.Off3, and_true] at off'))); (all_goals (try ((show KPfMark → _); intro hMark'))); kcf_last)))
  (k_with "mywhile" => (k_here; (rename Fr _ _ _ _ => lF'); (rename News _ _ _ _ => lN'); (rename IntsAre _ _ => lI'); (with_unfolding_all refine' while_layers (LInv x (run x ((rangeKs 0 (((x.length : Int) - 0).toNat)).foldl (placeG x) []))) LMeas lF' lN' lI' ?n1 ?n2 ?n3 rfl rfl rfl ?hp ?_); (case n1 => omega); (case n2 => omega); (case n3 => omega); (case hp => exact go_start hx); (clear lF' lN'); intro lay tl pa pvs ps pn lf lvs ls ln h tk qI qS q1 q2 q3 qP qF qN; (obtain ⟨b1, b2, b4, qG⟩ := qP); dsimp only at b1 b2 b4 qG; (have qL := IntsAre.length qI); (have qM := StrsAre.length qS); (try k_fold)))
  refine wpAny_call ?_
  k_dflt (refine' code_defC ?k1 ?k2 ?k3 ?k4 ?k5 ?kA ?kF ?kK ?k6 ?k7 ?k8 ?k9 ?kB ?kD ?_ ?c2 ?c3 ?c4; (case kA => exact rfl); (case kF => exact rfl); (case kK => assumption); (case k1 => k_asm); (case k2 => k_asm); (case k3 => k_asm); (case k4 => k_asm); (case k5 => k_asm); (case k6 => k_is); (case k7 => k_is); (case k8 => ktr_room); (case k9 => exact BindsTo.of_eq rfl); (case kB => exact rfl); (case kD => decide +kernel); (case c2 => exact rfl); (case c3 => exact rfl); (case c4 => exact rfl); k_whole; intro g' L' h' tk' cells' FG' F' N' Y' B' X' T' l1; (try k_lt l1); k_cells Y'; (try simp only [List.cons_append, List.nil_append] at N'); (try dsimp only); (try k_lift B'); (try k_fold))
  k_steps
  · rename StrsAre _ _ => qS
    have hA := isA_of (x := x) (ps := ps) (by assumption) (by assumption)
    have hP := piece_of (x := x) (ps := ps) (by assumption)
    refine turn_end (lay ++ Str.ofString "<") _ _ _ (nextA ps) _ _ _ (ls ++ [piece x ps]) _ (by assumption) (by assumption) (by with_unfolding_all rfl) (by with_unfolding_all rfl) (by with_unfolding_all rfl) (by k_mem) (by k_mem) (by k_mem) (by assumption) (strs_snoc qS hP) (by omega) (by omega) (by omega) ?_ (go_A b2 b4 qG (by assumption) hA)
    intro z h1 h2 h3
    simp only [h1, h2, h3, if_false]
  · rename StrsAre _ _ => qS
    have hA := isA_not (x := x) (ps := ps) (by assumption)
    have hU := isU_of (x := x) (ps := ps) (by assumption) (by assumption)
    have hP := piece_of (x := x) (ps := ps) (by assumption)
    refine turn_end (lay ++ Str.ofString "U") _ _ _ (nextU ps) _ _ _ (ls ++ [piece x ps]) _ (by assumption) (by assumption) (by with_unfolding_all rfl) (by with_unfolding_all rfl) (by with_unfolding_all rfl) (by k_mem) (by k_mem) (by k_mem) (by assumption) (strs_snoc qS hP) (by omega) (by omega) (by omega) ?_ (go_U b2 b4 qG (by assumption) hA hU)
    intro z h1 h2 h3
    simp only [h1, h2, h3, if_false]
  · rename StrsAre _ _ => qS
    have hA := isA_not (x := x) (ps := ps) (by assumption)
    have hU := isU_not (x := x) (ps := ps) (by assumption)
    have hP := piece_of (x := x) (ps := ps) (by assumption)
    refine turn_end lay _ _ _ ps _ _ _ (ls ++ [piece x ps]) _ (by assumption) (by assumption) (by with_unfolding_all rfl) (by with_unfolding_all rfl) (by with_unfolding_all rfl) (by k_mem) (by k_mem) (by k_mem) (by assumption) (strs_snoc qS hP) (by omega) (by omega) (by omega) ?_ (go_N b2 b4 qG (by assumption) hA hU)
    intro z h1 h2 h3
    simp only [h1, h2, h3, if_false]
  · rename StrsAre _ _ => qS
    have hA := isA_not (x := x) (ps := ps) (by assumption)
    have hU := isU_short (x := x) (ps := ps) (by omega)
    have hP := piece_of (x := x) (ps := ps) (by assumption)
    refine turn_end lay _ _ _ ps _ _ _ (ls ++ [piece x ps]) _ (by assumption) (by assumption) (by with_unfolding_all rfl) (by with_unfolding_all rfl) (by with_unfolding_all rfl) (by k_mem) (by k_mem) (by k_mem) (by assumption) (strs_snoc qS hP) (by omega) (by omega) (by omega) ?_ (go_N b2 b4 qG (by assumption) hA hU)
    intro z h1 h2 h3
    simp only [h1, h2, h3, if_false]
  · rename StrsAre _ _ => qS
    have hA := isA_short (x := x) (ps := ps) (by omega)
    have hU := isU_short (x := x) (ps := ps) (by omega)
    have hP := piece_of (x := x) (ps := ps) (by assumption)
    refine turn_end lay _ _ _ ps _ _ _ (ls ++ [piece x ps]) _ (by assumption) (by assumption) (by with_unfolding_all rfl) (by with_unfolding_all rfl) (by with_unfolding_all rfl) (by k_mem) (by k_mem) (by k_mem) (by assumption) (strs_snoc qS hP) (by omega) (by omega) (by omega) ?_ (go_N b2 b4 qG (by assumption) hA hU)
    intro z h1 h2 h3
    simp only [h1, h2, h3, if_false]
  · rename StrsAre _ _ => qS
    have hA := isA_short (x := x) (ps := ps) (by omega)
    have hU := isU_short (x := x) (ps := ps) (by omega)
    have hP := piece_nil (x := x) (ps := ps) (by assumption)
    refine turn_end lay _ _ _ ps _ _ _ (ls ++ [piece x ps]) _ (by assumption) (by assumption) (by with_unfolding_all rfl) (by with_unfolding_all rfl) (by with_unfolding_all rfl) (by k_mem) (by k_mem) (by k_mem) (by assumption) (strs_snoc qS hP) (by omega) (by omega) (by omega) ?_ (go_N b2 b4 qG (by assumption) hA hU)
    intro z h1 h2 h3
    simp only [h1, h2, h3, if_false]
  · rename StrsAre _ _ => qS
    rename News _ L _ _ => kN
    obtain ⟨e1, e2⟩ := go_end qG (by assumption)
    rw [e2] at qS
    exact ret _ lay tl lf lvs _ ln _ _ qS e1 b2 (by omega) (by assumption) (fun p hp => kN p (by
      rcases List.mem_cons.mp hp with rfl | hp
      · exact .head _
      · rcases List.mem_cons.mp hp with rfl | hp
        · exact .tail _ (.head _)
        · exact nomatch hp))
end PartM4
section PartM5
open PySem PySem.W PyProof.Rows
theorem le_wrapA (x : Str) : (unwrapA x).length ≤ x.length := by
  unfold unwrapA
  split
  · split
    · exact le_strip (le_slice (Nat.le_refl _))
    · exact Nat.le_refl _
  · exact Nat.le_refl _
theorem le_wrapB (x : Str) : (unwrapB x).length ≤ x.length := by
  unfold unwrapB
  split
  · exact le_strip (le_slice (Nat.le_refl _))
  · exact Nat.le_refl _
theorem le_wrap (x : Str) : (unwrapS x).length ≤ x.length := Nat.le_trans (le_wrapB _) (Nat.le_trans (le_wrapA _) (len_strip x))
section
variable {lay : Str} {l : List Nat} {off : Int}
theorem off_yes {k c : Nat} (h : l[k]? = some c) : (if l[k]? = some c then k + 1 else k) = k + 1 := if_pos h
theorem off_no {k c : Nat} (h : ¬ l[k]? = some c) : (if l[k]? = some c then k + 1 else k) = k := if_neg h
theorem in_lay {k c : Nat} (e : lay.cps.toList = l) (h : l[k]? = some c) : k + 1 ≤ lay.length := by
  have hl : lay.cps.toList.length = lay.length := Array.length_toList
  rw [e] at hl
  have := (List.getElem?_eq_some_iff.mp h).1
  omega
theorem sign_at (e : lay.cps.toList = l) (h0 : 0 ≤ off) (h1 : off ≤ (lay.length : Int)) {y : Str} {c : Nat} (hy : y = ⟨#[c]⟩) : ((Txt.slice lay (some off) (some (off + 1)) == y) = true) ↔ l[off.toNat]? = some c := by
  have := sign_is lay off.toNat c (by omega) y hy
  rw [show ((off.toNat : Nat) : Int) = off by omega] at this
  rw [this, e]
theorem offA_t (e : lay.cps.toList = l) (h0 : 0 ≤ off) (h1 : off ≤ (lay.length : Int)) (h : (Txt.slice lay (some off) (some (off + 1)) == Str.ofString "<") = true) : offA l off.toNat = (off + 1).toNat ∧ off + 1 ≤ (lay.length : Int) := by
  have g := (sign_at e h0 h1 txtL).mp h
  have := in_lay e g
  refine ⟨?_, by omega⟩
  unfold offA
  rw [off_yes g]; omega
theorem offA_f (e : lay.cps.toList = l) (h0 : 0 ≤ off) (h1 : off ≤ (lay.length : Int)) (h : (Txt.slice lay (some off) (some (off + 1)) == Str.ofString "<") = false) : offA l off.toNat = off.toNat := by
  have g : ¬ l[off.toNat]? = some 60 := fun c => by
    have := (sign_at e h0 h1 txtL).mpr c
    rw [h] at this; exact absurd this (by decide)
  unfold offA
  rw [off_no g]
theorem offU_t (e : lay.cps.toList = l) (h0 : 0 ≤ off) (h1 : off ≤ (lay.length : Int)) (h : (Txt.slice lay (some off) (some (off + 1)) == Str.ofString "U") = true) : offU l off.toNat = (off + 1).toNat ∧ off + 1 ≤ (lay.length : Int) := by
  have g := (sign_at e h0 h1 txt1U).mp h
  have := in_lay e g
  refine ⟨?_, by omega⟩
  unfold offU
  rw [off_yes g]; omega
theorem offU_f (e : lay.cps.toList = l) (h0 : 0 ≤ off) (h1 : off ≤ (lay.length : Int)) (h : (Txt.slice lay (some off) (some (off + 1)) == Str.ofString "U") = false) : offU l off.toNat = off.toNat := by
  have g : ¬ l[off.toNat]? = some 85 := fun c => by
    have := (sign_at e h0 h1 txt1U).mpr c
    rw [h] at this; exact absurd this (by decide)
  unfold offU
  rw [off_no g]
theorem offs_tt (e : lay.cps.toList = l) (h0 : 0 ≤ off) (h1 : off ≤ (lay.length : Int)) (h : (Txt.slice lay (some off) (some (off + 1)) == Str.ofString "<") = true) (h' : (Txt.slice lay (some (off + 1)) (some (off + 1 + 1)) == Str.ofString "U") = true) : offU l (offA l off.toNat) = (off + 1 + 1).toNat := by
  obtain ⟨a, b⟩ := offA_t e h0 h1 h
  rw [a, (offU_t e (by omega) b h').1]
theorem offs_tf (e : lay.cps.toList = l) (h0 : 0 ≤ off) (h1 : off ≤ (lay.length : Int)) (h : (Txt.slice lay (some off) (some (off + 1)) == Str.ofString "<") = true) (h' : (Txt.slice lay (some (off + 1)) (some (off + 1 + 1)) == Str.ofString "U") = false) : offU l (offA l off.toNat) = (off + 1).toNat := by
  obtain ⟨a, b⟩ := offA_t e h0 h1 h
  rw [a, offU_f e (by omega) b h']
theorem offs_ft (e : lay.cps.toList = l) (h0 : 0 ≤ off) (h1 : off ≤ (lay.length : Int)) (h : (Txt.slice lay (some off) (some (off + 1)) == Str.ofString "<") = false) (h' : (Txt.slice lay (some off) (some (off + 1)) == Str.ofString "U") = true) : offU l (offA l off.toNat) = (off + 1).toNat := by
  rw [offA_f e h0 h1 h, (offU_t e h0 h1 h').1]
theorem offs_ff (e : lay.cps.toList = l) (h0 : 0 ≤ off) (h1 : off ≤ (lay.length : Int)) (h : (Txt.slice lay (some off) (some (off + 1)) == Str.ofString "<") = false) (h' : (Txt.slice lay (some off) (some (off + 1)) == Str.ofString "U") = false) : offU l (offA l off.toNat) = off.toNat := by
  rw [offA_f e h0 h1 h, offU_f e h0 h1 h']
end
theorem le_of {y told : Str} (e : y = unwrapS told) (h : told.length ≤ 1000) : y.length ≤ 1000 := by
  rw [e]; exact Nat.le_trans (le_wrap told) h
theorem law_step {lay told y z : Str} {r : List Nat × List Str} {off k : Int} (lE : lay.cps.toList = r.1) (rOk : RunOk z r) (uE : y = unwrapS told) (ht : Txt.strip told = r.2.getD off.toNat Str.empty) (h0 : 0 ≤ off) (h1 : off ≤ (lay.length : Int))
    (hk : offU r.1 (offA r.1 off.toNat) = k.toNat) (k0 : 0 ≤ k) : 0 ≤ k ∧ k ≤ (lay.length : Int) ∧ k < (r.2.length : Int) ∧ y = r.2.getD k.toNat Str.empty ∧ Txt.strip y = r.2.getD k.toNat Str.empty := by
  have hl : lay.cps.toList.length = lay.length := Array.length_toList
  rw [lE] at hl
  obtain ⟨a, b, c⟩ := unwrap_step rOk (k := off.toNat) (by omega) ht
  have hn := rOk.len
  rw [hk] at a b c
  rw [uE]
  exact ⟨k0, by omega, by omega, b, c⟩
section
variable {prog : Program} {w : World} {A : Around} {E : Value → Shared → Prop} {s : Shared} {Q : Value → Shared → Prop}
theorem item_left {value slice : PySem.Expr} {lf : Addr} {lvs : List Value} {ls : List Str} {k : Int} {u : Tok} {y lay : Str} (hl : s.heap.IsList lf lvs.toArray) (hi : StrsAre lvs ls) (hB : lay.length ≤ 258)
    (H : 0 ≤ k ∧ k ≤ (lay.length : Int) ∧ k < (ls.length : Int) ∧ y = ls.getD k.toNat Str.empty ∧ Txt.strip y = ls.getD k.toNat Str.empty)
    (h : 0 ≤ k → k ≤ (lay.length : Int) → Txt.strip y = ls.getD k.toNat Str.empty → ∀ t', Q (.str y t') s)
    (hs : subscripted slice false (.ref lf) (.int k u) = operate [.ref lf, .int k u] (getItem (.ref lf) (.int k u)) := by with_unfolding_all rfl) (hg : ∀ r, letTemporaryGo value (.ref lf) r = pure () := by intro _; with_unfolding_all rfl) :
    wpAny (model prog w) A (subscriptTail value slice (.ref lf) (.int k u)) Q E s := by
  obtain ⟨a, b, c, d, e⟩ := H
  refine item_strsA hl hi a c (by omega) (fun t' => ?_) hs hg
  rw [← d]; exact h a b e t'
theorem ne_same {y : Str} {t u : Tok} (h : Q (.bool false) s) : wpAny (model prog w) A (compareOp .NotEq (.str y t) (.str y u)) Q E s :=
  ne_str (by rw [bne_self_eq_false]; exact h)
end
local macro_rules | `(tactic| walk_at "call ref") => `(tactic| k_extra "mycall")
local macro_rules | `(tactic| walk_at "subscriptTail") => `(tactic| ((with_reducible show wpAny _ _ (subscriptTail _ _ (Value.ref _) (Value.int _ _)) _ _ _); k_extra "mysub"))
local macro_rules | `(tactic| walk_at "compareOp NotEq str str") => `(tactic| ((with_reducible show wpAny _ _ (compareOp CmpOp.NotEq (Value.str _ _) (Value.str _ _)) _ _ _); (with_reducible refine ne_same ?_)))
set_option maxHeartbeats 2000000 in
theorem law_holds : PySem.Challenge.rw_dn0236_01.Holds := by
  refine hd0236 ?_
  k_with_none
  (k_with "mycall" => (k_here; (with_reducible show wpAny _ _ (call (Value.ref 35) _) _ _ _); (with_unfolding_all refine' text_call ?ak1 ?ak2 ?ak3 ?ak4 ?ak5 ?akK ?akd ?aku ?akl ?aki ?akn ?_); (case ak1 => k_asm); (case ak2 => k_asm); (case ak3 => k_asm); (case ak4 => k_asm); (case ak5 => k_asm); (case akK => first | exact rfl | assumption); (case akd => ktr_room); (case aku => ktr_units); (case akl => k_asm); (case aki => l_ints); (case akn => omega); (intro tx tt h' tk' hx F' N'); (try dsimp only); (try k_fold)))
  (k_with "mycall" => (k_here; (with_reducible show wpAny _ _ (call (Value.ref 40) _) _ _ _); (with_unfolding_all refine' layers_call ?bk1 ?bk2 ?bk3 ?bk4 ?bk5 ?bkK ?bkd ?bku ?bkx ?_); (case bk1 => k_asm); (case bk2 => k_asm); (case bk3 => k_asm); (case bk4 => k_asm); (case bk5 => k_asm); (case bkK => first | exact rfl | assumption); (case bkd => ktr_room); (case bku => ktr_units); (case bkx => assumption); (intro tp lay tl lf lvs n1 n2 h' tk' lS lE lB lNe F' N'); (have rOk := run_text tx); (have rL := rOk.len); (have rZ := rOk.zero); (try dsimp only); (try k_fold)))
  (k_with "mycall" => (k_here; (with_reducible show wpAny _ _ (call (Value.ref 21) _) _ _ _); k_dflt ((with_unfolding_all refine' unwrap_call ?ck1 ?ck2 ?ck3 ?ck4 ?ck5 ?ckK ?ckd ?cku ?ckx ?_); (case ck1 => k_asm); (case ck2 => k_asm); (case ck3 => k_asm); (case ck4 => k_asm); (case ck5 => k_asm); (case ckK => first | exact rfl | assumption); (case ckd => ktr_room); (case cku => ktr_units); (case ckx => omega)); (intro uy ut h' tk' uE F' N'); (have uB := le_of uE (by assumption)); (try dsimp only); (try k_fold)))
  (k_with "pyIter ref" => k_state (fun pre told off => 0 ≤ off ∧ off ≤ (lay.length : Int) ∧ told.length ≤ 1000 ∧ Txt.strip told = (run tx (places tx 0 tx.length)).2.getD off.toNat Str.empty) "told" "off")
  (k_with "mysub" => (k_here; k_dflt (refine' item_left (y := uy) ?sl lS lB (law_step lE rOk uE (by assumption) (by assumption) (by assumption) ?so ?s0) ?_; (case sl => is_list); (case so => first | exact offs_tt lE (by assumption) (by assumption) (by assumption) (by assumption) | exact offs_tf lE (by assumption) (by assumption) (by assumption) (by assumption) | exact offs_ft lE (by assumption) (by assumption) (by assumption) (by assumption) | exact offs_ff lE (by assumption) (by assumption) (by assumption) (by assumption)); (case s0 => omega)); intro sA sB sC st))
  (k_with "state" => exact ⟨by omega, by omega, by omega, rZ.symm⟩)
  (k_with "state" => exact ⟨by omega, by omega, by omega, by assumption⟩)
  k_go0
  (all_goals try k_fold)
  k_steps
end PartM5
end Mine
theorem PySem.Challenge.cw_dn0236_01_holds : PySem.Challenge.rw_dn0236_01.Holds :=
  Mine.law_holds
