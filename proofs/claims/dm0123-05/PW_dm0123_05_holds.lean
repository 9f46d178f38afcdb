import PyProof.Rows.All
import Wide.All
import OpenK.AllK
import Wide.FinOn
import PySem.Challenge.RW_dm0123_05
open PySem PySem.W PyProof.Rows
set_option Elab.async false
set_option linter.unusedVariables false
namespace Mine
/-! Top05 -/
section
set_option maxRecDepth 100000 in
set_option maxHeartbeats 8000000 in
open_top hd for PySem.Challenge.rw_dm0123_05
end
/-! W1 -/
section
local macro_rules | `(tactic| walk_at "mysteps") => `(tactic| repeat' (first | (k_unfold; (try dsimp only)) | (k_end; wrow_close) | walk1 | (dsimp only; walk1) | (leave1; walk_say "STEP leave1"; try dsimp only) | fail "no step"))

def WordOk (x : Str) : Prop := x.cps.toList.Nodup ∧ 58 ∉ x.cps.toList ∧ ∀ c ∈ x.cps.toList, c < 55296

theorem occ_none {x : Str} {c : Nat} (h : (Builtin.Str.occurrences x ⟨#[c]⟩ 0 x.length 1).isEmpty = true) : c ∉ x.cps.toList := by
  intro hm
  have h1 := StrLaws.found_one x c
  rw [h, decide_eq_true hm] at h1
  cases h1
theorem occ_some {x : Str} {c : Nat} (h : (Builtin.Str.occurrences x ⟨#[c]⟩ 0 x.length 1).isEmpty = false) : c ∈ x.cps.toList := by
  have h1 := StrLaws.found_one x c
  rw [h] at h1
  exact of_decide_eq_true h1.symm
theorem cps_app (x y : Str) : (x ++ y).cps.toList = x.cps.toList ++ y.cps.toList := by
  rw [Str.cps_append, Array.toList_append]
theorem word_nil : (Str.ofString "").length ≤ ([] : List Int).length ∧ WordOk (Str.ofString "") := by
  have e : Str.ofString "" = ⟨#[]⟩ := by decide +kernel
  rw [e]
  exact ⟨Nat.le_refl _, List.nodup_nil, (fun h => nomatch h), fun _ h => nomatch h⟩
theorem word_more {x : Str} {c : Nat} (h2 : WordOk x) (h3 : c ≠ 58) (h4 : c ∉ x.cps.toList) (h5 : c < 55296) : WordOk (x ++ ⟨#[c]⟩) := by
  refine ⟨?_, ?_, ?_⟩
  · rw [cps_app, List.nodup_append]
    refine ⟨h2.1, by simp, ?_⟩
    intro a ha b hb e
    have hb' : b = c := by simpa using hb
    exact h4 (by rw [← hb', ← e]; exact ha)
  · rw [cps_app]
    intro hm
    rcases List.mem_append.mp hm with hm | hm
    · exact h2.2.1 hm
    · have : 58 = c := by simpa using hm
      exact h3 this.symm
  · rw [cps_app]
    intro d hm
    rcases List.mem_append.mp hm with hm | hm
    · exact h2.2.2 d hm
    · have : d = c := by simpa using hm
      rw [this]; exact h5
theorem word_step {x : Str} {c : Int} {pre : List Int} {n : Int} (h1 : x.length ≤ pre.length) (h2 : WordOk x) (h3 : c ≠ 58) (h5 : c < 55296)
    (h4 : (Builtin.Str.occurrences x ⟨#[c.toNat]⟩ 0 x.length 1).isEmpty = true) :
    (x ++ (⟨#[c.toNat]⟩ : Str)).length ≤ (pre ++ [n]).length ∧ WordOk (x ++ (⟨#[c.toNat]⟩ : Str)) := by
  refine ⟨?_, word_more h2 (by omega) (occ_none h4) (by omega)⟩
  rw [Str.length_append, List.length_append]
  exact Nat.add_le_add h1 (Nat.le_refl _)
theorem letter_lt (e : Int) : 97 + e.fmod 26 < 55296 := by
  have h := Int.fmod_lt_of_pos e (show (0 : Int) < 26 by decide)
  omega
theorem word_stay {x : Str} {pre : List Int} {n : Int} (h1 : x.length ≤ pre.length) (h2 : WordOk x) : x.length ≤ (pre ++ [n]).length ∧ WordOk x :=
  ⟨by rw [List.length_append]; omega, h2⟩
theorem m_str : Str.ofString "m" = ⟨#[109]⟩ := by decide +kernel

set_option maxRecDepth 100000 in
set_option maxHeartbeats 8000000 in
theorem word_spec (w : World) (mean : ExcName → Option Value) (mg mb : Str → Option Value)
    (dp un : Nat) (gd : Option (List Code)) (cn : Str) (cs : Scope) (a : Addr) (ccd : Value) (cl : List (Str × Addr)) (outer : List Env) (A₀ : Around) (base h₀ : Heap) (L : Addr) (m : Str → Option Value) (s : Shared) (Q E : Value → Shared → Prop)
    (D : Addr) (vs : List Value) (ns : List Int)
    (B : Below A₀ base outer h₀) (F : Fr h₀ L s.heap m) (X : (Mine.hd.heap_39 w.params).In h₀) (N : News h₀ L s.heap [(D, listOf vs.toArray 0)])
    (T : Top Mine.hd.view_39 (looseW Mine.hd.view_39 [Str.ofString "GetoptError"]) mean mg mb h₀) (hk : cs.kind = .function)
    (hi : IntsAre vs ns) (hlen : ns.length ≤ 48) (hd : dp + 1 < recursionLimit) (hu : un + 8 < cLine)
    (ret : ∀ x t h' tk', WordOk x → 0 < x.length → x.length ≤ 49 → Fr h₀ L h' m → News h₀ L h' [(D, listOf vs.toArray 0)] → Q (.str x t) { s with heap := h', toks := tk' }) :
    wpAny (model PySem.Challenge.rw_dm0123_05.row.prog w) (ktrTop dp un gd cn cs L a ccd cl outer) (call (.ref 77) [.ref D]) Q E s := by
  revert X
  k_fill
  k_with_none
  w_top off
  intro X
  refine wpAny_call ?_
  k_dflt ktr_enter
  k_with "pyIter ref" => k_state (fun pre word => word.length ≤ pre.length ∧ WordOk word) "word"
  k_with "state" => first
    | exact word_nil
    | exact word_stay (by assumption) (by assumption)
    | exact word_step (by assumption) (by assumption) (by assumption) (Int.fmod_lt_of_pos _ (by decide)) (by assumption)
    | exact word_step (by assumption) (by assumption) (by assumption) (letter_lt _) (by assumption)
  walk_at "mysteps"
  · rename Fr h₀ L _ m => kF
    rename News h₀ L _ _ => kN
    rename WordOk _ => h2
    rename List.isEmpty _ = true => ho
    rename Str.length _ ≤ ns.length => h1
    rw [m_str] at ho ⊢
    have hw := word_more h2 (by decide) (occ_none ho) (by decide)
    have e : Str.length ⟨#[109]⟩ = 1 := rfl
    refine ret _ _ _ _ hw ?_ ?_ kF kN <;> rw [Str.length_append] <;> omega
  · rename Fr h₀ L _ m => kF
    rename News h₀ L _ _ => kN
    rename WordOk _ => h2
    rename List.isEmpty _ = false => ho
    rename Str.length _ ≤ ns.length => h1
    rw [m_str] at ho
    have hm := occ_some ho
    refine ret _ _ _ _ h2 ?_ (by omega) kF kN
    exact Nat.pos_of_ne_zero (fun e => by
      have e' : Array.size _ = 0 := e
      rw [Array.eq_empty_of_size_eq_zero e'] at hm
      simp at hm)
end
/-! W2 -/
section
local macro_rules | `(tactic| walk_at "mysteps") => `(tactic| repeat' (first | (k_unfold; (try dsimp only)) | (k_end; wrow_close) | walk1 | (dsimp only; walk1) | (leave1; walk_say "STEP leave1"; try dsimp only) | fail "no step"))
local macro_rules | `(tactic| walk_at "myiter") => `(tactic| repeat' ((fail_if_success (with_reducible show wpAny _ _ (pyIter _) _ _ _)); first | (k_unfold; (try dsimp only)) | (k_end; wrow_close) | walk1 | (dsimp only; walk1) | (leave1; walk_say "STEP leave1"; try dsimp only) | fail "no step"))

theorem colon_str : Str.ofString ":" = ⟨#[58]⟩ := by decide +kernel

theorem item_of {x : Str} {k : Int} {n : Nat} (hk : k = 0 + (n : Int)) (h : n < x.length) : ∃ d, x.cps.toList[n]? = some d ∧ Txt.item x k = ⟨#[d]⟩ := by
  have h' : n < x.cps.size := h
  refine ⟨x.cps[n], by simp [h'], item_meets (by omega) ?_⟩
  have e : k.toNat = n := by omega
  rw [e]
  simp [h']
theorem one_beq {c d : Nat} : ((⟨#[c]⟩ : Str) == ⟨#[d]⟩) = decide (c = d) := by
  by_cases h : c = d
  · subst h; simp
  · rw [decide_eq_false h]
    rw [beq_eq_false_iff_ne]
    intro e
    injection e with e
    exact h (by simpa using e)
theorem starts3_colon {x : Str} {k : Int} {n : Nat} (hk : k = (n : Int)) : Txt.startswith3 x ⟨#[58]⟩ k = (x.cps.toList[n]? == some 58) := by
  have e : fromIndex x.length k = n := by
    unfold fromIndex
    rw [if_neg (by omega)]
    omega
  unfold Txt.startswith3
  rw [e]
  have h := StrLaws.subAt_one x 58 n
  rw [Bool.eq_iff_iff, Bool.and_eq_true, decide_eq_true_eq, h, beq_iff_eq]
theorem idx_first {l : List Nat} {c n : Nat} (h : l[n]? = some c) (hf : ∀ j < n, l[j]? ≠ some c) : l.idxOf c = n := by
  induction l generalizing n with
  | nil => simp at h
  | cons a r ih =>
    cases n with
    | zero =>
      have : a = c := by simpa using h
      simp [this]
    | succ n =>
      have ha : a ≠ c := fun e => hf 0 (Nat.succ_pos _) (by simp [e])
      rw [List.idxOf_cons, (by simpa using ha : (a == c) = false), cond_false, ih (by simpa using h) fun j hj => by simpa using hf (j + 1) (Nat.succ_lt_succ hj)]

set_option maxRecDepth 100000 in
set_option maxHeartbeats 8000000 in
theorem has_spec (w : World) (mean : ExcName → Option Value) (mg mb : Str → Option Value)
    (dp un : Nat) (gd : Option (List Code)) (cn : Str) (cs : Scope) (a : Addr) (ccd : Value) (cl : List (Str × Addr)) (outer : List Env) (A₀ : Around) (base h₀ : Heap) (L : Addr) (m : Str → Option Value) (news : List (Addr × Obj)) (s : Shared) (Q E : Value → Shared → Prop)
    (c : Nat) (so : Str) (t₁ t₂ : Tok)
    (B : Below A₀ base outer h₀) (F : Fr h₀ L s.heap m) (X : (Mine.hd.heap_39 w.params).In h₀) (N : News h₀ L s.heap news)
    (T : Top Mine.hd.view_39 (looseW Mine.hd.view_39 [Str.ofString "GetoptError"]) mean mg mb h₀) (hk : cs.kind = .function)
    (hlen : so.length ≤ 1000) (hc : c ∈ so.cps.toList) (hc' : c ≠ 58) (hd : dp + 1 < recursionLimit) (hu : un + 8 < cLine)
    (ret : ∀ h' tk', Fr h₀ L h' m → News h₀ L h' news → Q (.bool (so.cps.toList[so.cps.toList.idxOf c + 1]? == some 58)) { s with heap := h', toks := tk' }) :
    wpAny (model PySem.Challenge.rw_dm0123_05.row.prog w) (ktrTop dp un gd cn cs L a ccd cl outer) (call (.ref 70) [.str ⟨#[c]⟩ t₁, .str so t₂]) Q E s := by
  revert X
  k_fill
  k_with_none
  w_top off
  intro X
  refine wpAny_call ?_
  k_dflt ktr_enter
  walk_at "myiter"
  rename IsRange _ _ _ _ _ _ _ _ => hR
  rename Fr _ _ _ _ => F₁
  rename News _ _ _ _ => N₁
  refine kst_range (σ := Unit) (n := so.length) (fun _ => news) (fun _ => []) (fun _ => True) [] (fun pre _ => ∀ j < pre.length, so.cps.toList[j]? ≠ some c) () rfl hR ?_ ?_ F₁ N₁ trivial (fun _ h => nomatch h) (fun _ h => absurd h (Nat.not_lt_zero _)) ?_ ?_
  · exact small_one (by omega) (by omega) (by omega) (by omega)
  · rw [rangeSize_nat]; simp
  · intro _ pre k t u h tk own hk1 hk2 hoff _ hP F₂ N₂
    obtain ⟨d, hd1, hd2⟩ := item_of hk1 hk2
    try k_fold
    walk_at "mysteps"
    · rename Fr h₀ L _ m => kF
      rename News h₀ L _ _ => kN
      rename ((_ == _) = true) => he
      rw [hd2, one_beq, decide_eq_true_eq] at he
      subst he
      rw [colon_str, starts3_colon (n := pre.length + 1) (by omega)]
      have hi := idx_first hd1 hP
      rw [← hi]
      exact ret _ _ kF (kst_newsOf kN fun p hp => List.mem_append.mpr (.inl hp))
    · exfalso
      rename ((_ == _) = true) => he
      rename ((_ != _) = false) => hn
      rw [hd2, one_beq, decide_eq_true_eq] at he
      subst he
      rw [hd2, colon_str, bne, one_beq] at hn
      simp [hc'] at hn
    · rename ((_ == _) = false) => he
      rw [hd2, one_beq, decide_eq_false_iff_not] at he
      refine kst_end () F₂ N₂ (fun p hp => List.mem_append.mpr (.inl hp)) (fun p hp => List.mem_append.mpr (.inr hp)) rfl trivial (fun _ h => nomatch h) ?_ ?_
      · intro z hz _ _
        exact if_neg hz
      · intro j hj
        rw [List.length_append] at hj
        by_cases e : j < pre.length
        · exact hP j e
        · have e' : j = pre.length := by simp at hj; omega
          rw [e', hd1]
          exact fun q => he (Option.some.inj q).symm
  · intro _ u h tk _ hP F₂ N₂
    exfalso
    obtain ⟨i, hi⟩ := List.mem_iff_getElem?.mp hc
    obtain ⟨hlt, _⟩ := List.getElem?_eq_some_iff.mp hi
    refine hP i ?_ hi
    rw [rangeKs_length]
    simpa [Str.length] using hlt
end
/-! W3 -/
section
local macro_rules | `(tactic| walk_at "mysteps") => `(tactic| repeat' (first | (k_unfold; (try dsimp only)) | (k_end; wrow_close) | walk1 | (dsimp only; walk1) | (leave1; walk_say "STEP leave1"; try dsimp only) | fail "no step"))
local macro_rules | `(tactic| walk_at "mywhile") => `(tactic| repeat' ((fail_if_success (with_reducible show wpAny _ _ (exec (Stmt.While _ _ _ _) _) _ _ _)); first | (k_unfold; (try dsimp only)) | (k_end; wrow_close) | walk1 | (dsimp only; walk1) | (leave1; walk_say "STEP leave1"; try dsimp only) | fail "no step"))
local macro_rules | `(tactic| walk_at "mycall") => `(tactic| repeat' ((fail_if_success (with_reducible show wpAny _ _ (PySem.call (Value.ref _) _ _) _ _ _)); first | (k_unfold; (try dsimp only)) | (k_end; wrow_close) | walk1 | (dsimp only; walk1) | (leave1; walk_say "STEP leave1"; try dsimp only) | fail "no step"))

local macro_rules | `(tactic| k_all) => `(tactic| assumption)
def hasB (so : Str) (c : Nat) : Bool := so.cps.toList[so.cps.toList.idxOf c + 1]? == some 58

/-- the pairs of a bunch: signs ahead, each with '' -/
def aheadD (cs : List Nat) : List Dat := cs.map fun c => Dat.tuple [Dat.str (Str.ofString "-" ++ ⟨#[c]⟩), Dat.str (Str.ofString "")]


theorem item_hd (d : Nat) (ds : List Nat) : Txt.item ⟨(d :: ds).toArray⟩ 0 = ⟨#[d]⟩ := item_meets (Int.le_refl _) rfl
theorem slice_from {x : Str} {i : Int} {n : Nat} (hi : i = (n : Int)) (h : n ≤ x.length) : Txt.slice x (some i) none = ⟨(x.cps.toList.drop n).toArray⟩ := by
  rw [slice_from_eq (b := (x.length : Int)) (by omega) (by omega) rfl]
  have e : i.toNat = n := by omega
  rw [e, List.take_of_length_le]
  rw [List.length_drop]
  have e2 : x.cps.toList.length = x.length := Array.length_toList
  omega
theorem slice_tl (d : Nat) (ds : List Nat) : Txt.slice ⟨(d :: ds).toArray⟩ (some 1) none = ⟨ds.toArray⟩ := by
  rw [slice_from (x := ⟨(d :: ds).toArray⟩) (i := 1) (n := 1) rfl (by show 1 ≤ (d :: ds).toArray.size; simp)]
  simp

structure ShS where
  i : Nat
  fin : Bool
  o : Str
  to : Tok
  vs : List Value
  n : Nat
  Wr : Addr
  nw : List (Addr × Obj)

def lastD (c : Nat) (behind : List Nat) : Dat := Dat.tuple [Dat.str (Str.ofString "-" ++ ⟨#[c]⟩), Dat.str (if behind = [] then Str.ofString ":" else ⟨behind.toArray⟩)]

def LeftIs (x : Str) (Wa Wr : Addr) (behind : List Nat) (tl : List (Addr × Obj)) : Prop :=
  (behind ≠ [] ∧ Wr = Wa) ∨ (behind = [] ∧ ∃ n t t', (Wr, listOf #[Value.str x t, Value.str (Str.ofString "") t'] n) ∈ tl)

structure ShP (x : Str) (G Wa : Addr) (k c : Nat) (old : List (Addr × Obj)) (z : ShS) : Prop where
  off : ∀ p ∈ z.nw, p.1 ≠ G
  fresh : ∀ p ∈ z.nw, ∀ q ∈ old, q.1 < p.1
  st : (z.fin = false ∧ z.i ≤ k ∧ z.o = ⟨(x.cps.toList.drop z.i).toArray⟩ ∧ z.Wr = Wa ∧ DatAll z.nw z.vs (aheadD (x.cps.toList.take z.i))) ∨
    (z.fin = true ∧ z.o = Str.ofString "" ∧ LeftIs x Wa z.Wr (x.cps.toList.drop (k + 1)) z.nw ∧ DatAll z.nw z.vs (aheadD (x.cps.toList.take k) ++ [lastD c (x.cps.toList.drop (k + 1))]))

theorem perm3 {α : Type} {A B C : α} {l : List α} : ∀ p ∈ C :: A :: B :: l, p ∈ A :: B :: C :: l := by
  intro p hp
  rcases List.mem_cons.mp hp with rfl | hp
  · exact .tail _ (.tail _ (.head _))
  · rcases List.mem_cons.mp hp with rfl | hp
    · exact .head _
    · rcases List.mem_cons.mp hp with rfl | hp
      · exact .tail _ (.head _)
      · exact .tail _ (.tail _ (.tail _ hp))
theorem allLt_out {d : Nat} : ∀ {l : List (Addr × Obj)}, AllLt d l → ∀ p ∈ l, p.1 < d
  | [], _, _, h => nomatch h
  | _ :: _, h, p, hp => by
    rcases List.mem_cons.mp hp with rfl | hp
    · exact h.1
    · exact allLt_out h.2 p hp
theorem take_succ_of {l : List Nat} {i d : Nat} {ds : List Nat} (h : l.drop i = d :: ds) : l.take (i + 1) = l.take i ++ [d] := by
  have e : l[i]? = some d := by
    have : (l.drop i)[0]? = some d := by rw [h]; rfl
    simpa [List.getElem?_drop] using this
  rw [List.take_add_one, e]; rfl
theorem news_add {h₀ h : Heap} {L : Addr} {l : List (Addr × Obj)} {p : Addr × Obj} (N : News h₀ L h l) (hp : p ∈ l) : News h₀ L h (p :: l) := fun q hq => by
  rcases List.mem_cons.mp hq with rfl | hq
  · exact N _ hp
  · exact N _ hq
abbrev tup2 (v u : Value) : Obj := { cls := .type "tuple", data := .seq #[v, u] }
theorem shp_add {G : Addr} {old nw : List (Addr × Obj)} (add : List (Addr × Obj)) (hoff : ∀ p ∈ nw, p.1 ≠ G) (hfr : ∀ p ∈ nw, ∀ q ∈ old, q.1 < p.1)
    (ha : ∀ p ∈ add, G < p.1 ∧ AllLt p.1 (nw ++ old)) :
    (∀ p ∈ add ++ nw, p.1 ≠ G) ∧ (∀ p ∈ add ++ nw, ∀ q ∈ old, q.1 < p.1) := by
  refine ⟨?_, ?_⟩
  · intro p hp
    rcases List.mem_append.mp hp with hp | hp
    · exact Nat.ne_of_gt (ha p hp).1
    · exact hoff p hp
  · intro p hp
    rcases List.mem_append.mp hp with hp | hp
    · exact fun q hq => allLt_out (ha p hp).2 q (List.mem_append.mpr (.inr hq))
    · exact hfr p hp
theorem sub_nil {α : Type} {A B C D E F G : α} {l : List α} : ∀ p ∈ G :: A :: D :: l, p ∈ A :: B :: C :: D :: E :: F :: G :: l := by
  intro p hp
  simp only [List.mem_cons] at hp ⊢
  rcases hp with h | h | h | h <;> simp [h]
theorem sub_cons {α : Type} {A B C G : α} {l : List α} : ∀ p ∈ G :: A :: l, p ∈ A :: B :: C :: G :: l := by
  intro p hp
  simp only [List.mem_cons] at hp ⊢
  rcases hp with h | h | h <;> simp [h]
theorem lastD_in {l : List Nat} {d : Nat} {y : Str} {behind : List Nat} {t u : Tok} {vs : List Value} {tl tl' : List (Addr × Obj)} {D2 : Addr} (hD : DatAll tl vs (aheadD l)) (hs : ∀ p ∈ tl, p ∈ tl') (hm : (D2, tup2 (.str (Str.ofString "-" ++ ⟨#[d]⟩) t) (.str y u)) ∈ tl')
    (hy : y = if behind = [] then Str.ofString ":" else ⟨behind.toArray⟩) :
    DatAll tl' (vs ++ [.ref D2]) (aheadD l ++ [lastD d behind]) := by
  subst hy
  exact DatAll.append (DatAll.mono hs hD) (.one (.tuple (vs := [_, _]) hm (.cons (.str _ _) (.cons (.str _ _) .nil))))
theorem empty_str : Str.ofString "" = ⟨#[]⟩ := by decide +kernel
theorem cons_ne (d : Nat) (ds : List Nat) : ((⟨(d :: ds).toArray⟩ : Str) == Str.ofString "") = false := by
  rw [empty_str, beq_eq_false_iff_ne]
  intro e
  injection e with e
  simp at e

theorem aheadD_succ {l : List Nat} {d : Nat} {t u : Tok} {vs : List Value} {tl tl' : List (Addr × Obj)} {D2 : Addr} (hD : DatAll tl vs (aheadD l)) (hs : ∀ p ∈ tl, p ∈ tl') (hm : (D2, tup2 (.str (Str.ofString "-" ++ ⟨#[d]⟩) t) (.str (Str.ofString "") u)) ∈ tl') :
    DatAll tl' (vs ++ [.ref D2]) (aheadD (l ++ [d])) := by
  unfold aheadD at hD ⊢
  rw [List.map_append]
  exact DatAll.append (DatAll.mono hs hD) (.one (.tuple (vs := [_, _]) hm (.cons (.str _ _) (.cons (.str _ _) .nil))))

set_option maxRecDepth 100000 in
set_option maxHeartbeats 8000000 in
theorem shorts_spec (w : World) (mean : ExcName → Option Value) (mg mb : Str → Option Value)
    (dp un : Nat) (gd : Option (List Code)) (cn : Str) (cs : Scope) (a : Addr) (ccd : Value) (cl : List (Str × Addr)) (outer : List Env) (A₀ : Around) (base h₀ : Heap) (L : Addr) (m : Str → Option Value) (old : List (Addr × Obj)) (s : Shared) (Q E : Value → Shared → Prop)
    (G Wa : Addr) (nG nW : Nat) (x so : Str) (t₁ t₂ ta tb tc : Tok) (k : Nat) (c : Nat)
    (B : Below A₀ base outer h₀) (F : Fr h₀ L s.heap m) (X : (Mine.hd.heap_39 w.params).In h₀) (N : News h₀ L s.heap ((G, listOf #[] nG) :: old))
    (T : Top Mine.hd.view_39 (looseW Mine.hd.view_39 [Str.ofString "GetoptError"]) mean mg mb h₀) (hk : cs.kind = .function)
    (hG : ∀ p ∈ old, p.1 ≠ G) (hW : (Wa, listOf #[Value.str (Str.ofString ":") ta, Value.str x tb, Value.str (Str.ofString "") tc] nW) ∈ old)
    (hlen : so.length ≤ 1000) (hxl : x.length ≤ 1000) (hso : ∀ d ∈ x.cps.toList, d ∈ so.cps.toList ∧ d ≠ 58) 
    (hkc : x.cps.toList[k]? = some c) (hkt : hasB so c = true) (hkf : ∀ d ∈ x.cps.toList.take k, hasB so d = false)
    (hd : dp + 2 < recursionLimit) (hu : un + 16 < cLine)
    (ret : ∀ r vs n W' nw h' tk', Fr h₀ L h' m → News h₀ L h' ((r, tup2 (.ref G) (.ref W')) :: (G, listOf vs.toArray n) :: (nw ++ old)) → (G < r ∧ AllLt r (nw ++ old)) → (∀ p ∈ nw, p.1 ≠ G) → (∀ p ∈ nw, ∀ q ∈ old, q.1 < p.1) →
      LeftIs x Wa W' (x.cps.toList.drop (k + 1)) nw → DatAll nw vs (aheadD (x.cps.toList.take k) ++ [lastD c (x.cps.toList.drop (k + 1))]) → Q (.ref r) { s with heap := h', toks := tk' }) :
    wpAny (model PySem.Challenge.rw_dm0123_05.row.prog w) (ktrTop dp un gd cn cs L a ccd cl outer) (call (.ref 63) [.ref G, .str x t₁, .str so t₂, .ref Wa]) Q E s := by
  revert X
  k_fill
  k_with_none
  w_top off
  intro X
  refine wpAny_call ?_
  k_dflt ktr_enter
  walk_at "mywhile"
  rename Fr _ _ _ _ => F₁
  rename News _ _ _ _ => N₁
  refine ksw_while (σ := ShS) (fun z => (G, listOf z.vs.toArray z.n) :: (z.nw ++ old)) (fun z => [(Str.ofString "optstring", .str z.o z.to), (Str.ofString "args", .ref z.Wr)]) (fun _ => True) [Str.ofString "opt", Str.ofString "optarg"] (ShP x G Wa k c old) (fun z => z.o.length)
    ⟨0, false, x, t₁, [], nG, Wa, []⟩ F₁ N₁ trivial ?_ ?_ ?_
  · kst_all
  · exact ⟨(fun _ h => nomatch h), (fun _ h => nomatch h), .inl ⟨rfl, Nat.zero_le _, rfl, rfl, .nil⟩⟩
  · rintro ⟨i, fin, o, to, vs, n, Wr, nw⟩ u h tk _ ⟨hoff, hfr, hst⟩ F₂ N₂
    dsimp only at hoff hfr hst F₂ N₂
    have hoffA : ∀ p ∈ nw ++ old, p.1 ≠ G := List.forall_mem_append.mpr ⟨hoff, hG⟩
    try k_fold
    rcases hst with ⟨rfl, hik, rfl, rfl, hD⟩ | ⟨rfl, rfl, hLeft, hD⟩
    · obtain ⟨d, ds, hds⟩ : ∃ d ds, x.cps.toList.drop i = d :: ds := by
        obtain ⟨hlt, _⟩ := List.getElem?_eq_some_iff.mp hkc
        cases he : x.cps.toList.drop i with
        | nil => rw [List.drop_eq_nil_iff] at he; omega
        | cons d ds => exact ⟨d, ds, rfl⟩
      rw [hds] at F₂
      dsimp only [kstB] at F₂
      have hW' := List.mem_append.mpr (.inr (a := (_ ∈ nw)) hW)
      have hxl' : x.cps.toList.length ≤ 1000 := by rw [Array.length_toList]; exact hxl
      have hol : Str.length ⟨(d :: ds).toArray⟩ ≤ 1000 := by
        rw [← hds]
        show (x.cps.toList.drop i).toArray.size ≤ 1000
        rw [List.size_toArray, List.length_drop]
        omega
      have hvs : vs.toArray.size ≤ 1000 := by
        rw [List.size_toArray, hD.length, aheadD, List.length_map, List.length_take]
        omega
      walk_at "mycall"
      · rename Fr _ _ _ _ => F₃
        rename News _ _ _ _ => N₃
        rw [item_hd, slice_tl] at F₃ N₃
        rw [item_hd]
        have hdx : d ∈ x.cps.toList := List.mem_of_mem_drop (by rw [hds]; exact .head _)
        obtain ⟨hd1, hd2⟩ := hso d hdx
        have hdr : x.cps.toList.drop (i + 1) = ds := by rw [← List.drop_drop, hds]; rfl
        by_cases hik' : i = k
        · subst hik'
          have hdc : d = c := by
            have : (x.cps.toList.drop i)[0]? = some d := by rw [hds]; rfl
            rw [List.getElem?_drop, Nat.add_zero, hkc] at this
            exact (Option.some.inj this).symm
          subst hdc
          refine has_spec w mean mg mb _ _ _ _ _ _ _ _ _ _ _ _ _ _ _ _ _ _ d so _ _ (by assumption) F₃ (by assumption) N₃ (by assumption) rfl hlen hd1 hd2 ?_ ?_ ?_
          · dsimp only; omega
          · dsimp only; omega
          · intro h₄ tk₄ F₄ N₄
            rw [show (so.cps.toList[so.cps.toList.idxOf d + 1]? == some 58) = true from hkt]
            dsimp only
            cases ds with
            | nil =>
              have hWG : Wr ≠ G := hoffA _ hW'
              replace N₄ := news_add N₄ (.tail _ (.tail _ hW'))
              walk_at "mysteps"
              rename Fr _ _ _ _ => F₅
              rename News _ _ _ _ => N₅
              rename (Wr < _ ∧ _ < _ ∧ G < _ ∧ AllLt _ _) => la
              rename (_ < _ ∧ _ < _ ∧ _ < _ ∧ Wr < _ ∧ _ < _ ∧ G < _ ∧ AllLt _ _) => lb
              rw [List.push_toArray] at N₅
              obtain ⟨b2, b3⟩ := shp_add [(_, _), (_, _)] hoff hfr (List.forall_mem_cons.mpr ⟨lb.2.2.2.2.2, List.forall_mem_cons.mpr ⟨la.2.2, List.forall_mem_nil _⟩⟩)
              refine ksw_end ⟨i + 1, true, Str.ofString "", ?kato, vs ++ [.ref _], n + 1, ?kawr, (_, _) :: (_, _) :: nw⟩ F₅ N₅ sub_nil trivial ?ka1 ?ka2 ⟨b2, b3, .inr ⟨rfl, rfl, ?ka3, ?ka4⟩⟩ ?ka6
              case ka1 => kst_all
              case ka2 => ksw_same
              case ka3 =>
                rw [hdr]
                exact .inr ⟨rfl, _, _, _, .tail _ (.head _)⟩
              case ka4 =>
                rw [hdr]
                exact lastD_in hD (fun p hp => .tail _ (.tail _ hp)) (.head _) rfl
              case ka6 =>
                dsimp only
                rw [hds, empty_str]
                exact Nat.zero_lt_one
            | cons e es =>
              have hne := cons_ne e es
              have hol2 : Str.length ⟨(e :: es).toArray⟩ ≤ 1000 := by
                have h1 : (d :: e :: es).toArray.size ≤ 1000 := hol
                show (e :: es).toArray.size ≤ 1000
                simp at h1 ⊢
                omega
              walk_at "mysteps"
              rename Fr _ _ _ _ => F₅
              rename News _ _ _ _ => N₅
              rename (_ < _ ∧ _ < _ ∧ G < _ ∧ AllLt _ _) => la
              rw [List.push_toArray] at N₅
              obtain ⟨b2, b3⟩ := shp_add [(_, _)] hoff hfr (List.forall_mem_cons.mpr ⟨la.2.2, List.forall_mem_nil _⟩)
              refine ksw_end ⟨i + 1, true, Str.ofString "", ?kbto, vs ++ [.ref _], n + 1, Wr, (_, _) :: nw⟩ F₅ N₅ sub_cons trivial ?kb1 ?kb2 ⟨b2, b3, .inr ⟨rfl, rfl, ?kb3, ?kb4⟩⟩ ?kb6
              case kb1 => kst_all
              case kb2 => ksw_same
              case kb3 =>
                rw [hdr]
                exact .inl ⟨by simp, rfl⟩
              case kb4 =>
                rw [hdr]
                exact lastD_in hD (fun p hp => .tail _ hp) (.head _) (by simp)
              case kb6 =>
                dsimp only
                rw [hds, empty_str]
                show 0 < (d :: e :: es).toArray.size
                simp
        · have hb : hasB so d = false := by
            refine hkf d ?_
            have h1 : d ∈ x.cps.toList.take (i + 1) := by rw [take_succ_of hds]; simp
            exact List.mem_of_mem_take (i := i + 1) (by rw [List.take_take, Nat.min_eq_left (by omega)]; exact h1)
          refine has_spec w mean mg mb _ _ _ _ _ _ _ _ _ _ _ _ _ _ _ _ _ _ d so _ _ (by assumption) F₃ (by assumption) N₃ (by assumption) rfl hlen hd1 hd2 ?_ ?_ ?_
          · dsimp only; omega
          · dsimp only; omega
          · intro h₄ tk₄ F₄ N₄
            rw [show (so.cps.toList[so.cps.toList.idxOf d + 1]? == some 58) = false from hb]
            dsimp only
            walk_at "mysteps"
            rename Fr _ _ _ _ => F₅
            rename News _ _ _ _ => N₅
            rename (G < _ ∧ AllLt _ _) => l1
            rename (_ < _ ∧ G < _ ∧ AllLt _ _) => l2
            rw [List.push_toArray] at N₅
            obtain ⟨b2, b3⟩ := shp_add [(_, _), (_, _)] hoff hfr (List.forall_mem_cons.mpr ⟨l2.2, List.forall_mem_cons.mpr ⟨l1, List.forall_mem_nil _⟩⟩)
            refine ksw_end ⟨i + 1, false, ⟨ds.toArray⟩, ?to, vs ++ [.ref _], n + 1, Wr, (_, _) :: (_, _) :: nw⟩ F₅ N₅ perm3 trivial ?k1 ?k2 ⟨b2, b3, .inl ⟨rfl, ?k3, ?k4, rfl, ?k5⟩⟩ ?k6
            case k1 => kst_all
            case k2 => ksw_same
            case k3 => dsimp only; omega
            case k4 => rw [hdr]
            case k5 =>
              rw [take_succ_of hds]
              exact aheadD_succ hD (fun p hp => .tail _ (.tail _ hp)) (.head _)
            case k6 =>
              dsimp only
              rw [hds]
              show ds.toArray.size < (d :: ds).toArray.size
              simp
      · exfalso
        rename ((_ != _) = false) => he
        rw [bne, cons_ne] at he
        cases he
    · dsimp only [kstB] at F₂
      walk_at "mysteps"
      rename Fr h₀ L _ m => kF
      rename News h₀ L _ _ => kN
      rename (G < _ ∧ AllLt _ _) => l1
      exact ret _ _ _ _ _ _ _ kF kN l1 hoff hfr hLeft hD
end
/-! W4 -/
section
local macro_rules | `(tactic| walk_at "mysteps") => `(tactic| repeat' (first | (k_unfold; (try dsimp only)) | (k_end; wrow_close) | walk1 | (dsimp only; walk1) | (leave1; walk_say "STEP leave1"; try dsimp only) | fail "no step"))
local macro_rules | `(tactic| walk_at "mywhile") => `(tactic| repeat' ((fail_if_success (with_reducible show wpAny _ _ (exec (Stmt.While _ _ _ _) _) _ _ _)); first | (k_unfold; (try dsimp only)) | (k_end; wrow_close) | walk1 | (dsimp only; walk1) | (leave1; walk_say "STEP leave1"; try dsimp only) | fail "no step"))
local macro_rules | `(tactic| walk_at "myiter") => `(tactic| repeat' ((fail_if_success (with_reducible show wpAny _ _ (pyIter _) _ _ _)); first | (k_unfold; (try dsimp only)) | (k_end; wrow_close) | walk1 | (dsimp only; walk1) | (leave1; walk_say "STEP leave1"; try dsimp only) | fail "no step"))
local macro_rules | `(tactic| k_all) => `(tactic| assumption)

/-- a stack (its top first): what a sign makes of it -/
def stStep (r : List Nat × List Nat) (c : Nat) : List Nat × List Nat := (r.1 ++ r.2.takeWhile (· < c), c :: r.2.dropWhile (· < c))
def stRun (cs : List Nat) : List Nat × List Nat := cs.foldl stStep ([], [])
def stOf (cs : List Nat) : List Nat := (stRun cs).1 ++ (stRun cs).2

structure StS where
  o : List Nat
  st : List Nat
  to : Tok
  vs : List Value
  n : Nat

local macro_rules | `(tactic| walk_at "myfor") => `(tactic| repeat' ((fail_if_success (with_reducible show wpAny _ _ (exec (Stmt.For _ _ _ _ _) _) _ _ _)); first | (k_unfold; (try dsimp only)) | (k_end; wrow_close) | walk1 | (dsimp only; walk1) | (leave1; walk_say "STEP leave1"; try dsimp only) | fail "no step"))
local macro_rules | `(tactic| walk_at "call builtin:list.pop") => `(tactic| (k_here; (with_reducible show wpAny _ _ (call (Value.builtin _) [Value.ref _]) _ _ _); k_dflt (refine' kl_pop ?F ?N ?e ?U ?z ?_; (case F => k_asm); (case N => k_asm); (case U => k_upd); (case e => exact kpa_last _ _); (case z => (rw [sizeLine_eq]; simp only [List.length_append, List.length_cons, List.length_nil]; omega))); intro h' F' N'))
theorem last_N {prog : Program} {w : World} {A : Around} {E : Value → Shared → Prop} {s : Shared} {h₀ : Heap} {L : Addr} {news : List (Addr × Obj)} {value slice : Expr} {l : Addr} {vi : List Value} {v : Value} {u : Tok} {n : Nat} {Q : Value → Shared → Prop} (N : News h₀ L s.heap news) (hm : (l, listOf (vi ++ [v]).toArray n) ∈ news) (h : Q v s)
    (hs : subscripted slice false (.ref l) (.int (-1) u) = operate [.ref l, .int (-1) u] (getItem (.ref l) (.int (-1) u)) := by with_unfolding_all rfl) (hg : ∀ r, letTemporaryGo value (.ref l) r = pure () := by intro _; with_unfolding_all rfl) :
    wpAny (model prog w) A (subscriptTail value slice (.ref l) (.int (-1) u)) Q E s := item_last ⟨_, N.get hm, rfl, n, rfl⟩ h hs hg
local macro_rules | `(tactic| walk_at "subscriptTail") => `(tactic| (k_here; (with_reducible show wpAny _ _ (subscriptTail _ _ (Value.ref _) (Value.int (-1) _)) _ _ _); k_dflt (refine' last_N ?k1 ?k2 ?_ ?k4 ?k5; (case k1 => k_asm); (case k2 => k_mem); (case k4 => with_unfolding_all rfl); (case k5 => (intro _; with_unfolding_all rfl)); k_whole)))
def dS (c : Nat) : Dat := Dat.str ⟨#[c]⟩

theorem dat_nil {news : List (Addr × Obj)} {vs : List Value} (h : DatAll news vs []) : vs = [] := by cases h; rfl
theorem dat_last {news : List (Addr × Obj)} {d : Nat} : ∀ {es : List Dat} {vs : List Value}, DatAll news vs (es ++ [dS d]) → ∃ us t, vs = us ++ [Value.str ⟨#[d]⟩ t] ∧ DatAll news us es
  | [], _, h => by
    cases h with
    | cons h r =>
      cases r
      cases h
      exact ⟨[], _, rfl, .nil⟩
  | e :: es, _, h => by
    cases h with
    | cons h r =>
      obtain ⟨us, t, rfl, hu⟩ := dat_last r
      exact ⟨_ :: us, t, rfl, .cons h hu⟩
theorem app_one (o : List Nat) (d : Nat) : (⟨o.toArray⟩ : Str) ++ (⟨#[d]⟩ : Str) = ⟨(o ++ [d]).toArray⟩ := by
  refine Str.ext' (Array.toList_inj.mp ?_)
  rw [Str.cps_append, Array.toList_append]
theorem sub_two {α : Type} {A B : α} {l : List α} : ∀ p ∈ B :: l, p ∈ A :: B :: l := fun _ hp => .tail _ hp
theorem mem_step {r : List Nat × List Nat} {c d : Nat} (h : d ∈ (stStep r c).1 ∨ d ∈ (stStep r c).2) : d = c ∨ d ∈ r.1 ∨ d ∈ r.2 := by
  unfold stStep at h
  rcases h with h | h
  · rcases List.mem_append.mp h with h | h
    · exact .inr (.inl h)
    · exact .inr (.inr (List.takeWhile_subset _ h))
  · rcases List.mem_cons.mp h with h | h
    · exact .inl h
    · exact .inr (.inr (List.dropWhile_subset _ h))
theorem mem_run : ∀ (cs : List Nat) (r : List Nat × List Nat) {d : Nat}, (d ∈ (cs.foldl stStep r).1 ∨ d ∈ (cs.foldl stStep r).2) → d ∈ cs ∨ d ∈ r.1 ∨ d ∈ r.2
  | [], _, _, h => .inr h
  | c :: cs, r, d, h => by
    rw [List.foldl_cons] at h
    rcases mem_run cs _ h with h | h
    · exact .inl (.tail _ h)
    · rcases mem_step h with rfl | h
      · exact .inl (.head _)
      · exact .inr h
theorem codes_nat (x : Str) : (KStt.codes x).map Int.toNat = x.cps.toList :=
  congrArg (fun y : Str => y.cps.toList) (KStt.txt_codes x)
theorem run_step (pre : List Int) (c : Nat) : stRun ((pre ++ [(c : Int)]).map Int.toNat) = stStep (stRun (pre.map Int.toNat)) c := by
  simp [stRun, List.foldl_append]
theorem step_lt {o r : List Nat} {d c : Nat} (h : d < c) : stStep (o ++ [d], r) c = stStep (o, d :: r) c := by
  simp [stStep, h]
theorem step_ge {o r : List Nat} {d c : Nat} (h : ¬ d < c) : stStep (o, d :: r) c = (o, c :: d :: r) := by
  simp [stStep, h]
theorem step_nil {o : List Nat} {c : Nat} : stStep (o, []) c = (o, [c]) := by
  simp [stStep]
theorem one_lt {d c : Nat} : ((⟨#[d]⟩ : Str).cps.toList < (⟨#[c]⟩ : Str).cps.toList) ↔ d < c := by
  show [d] < [c] ↔ d < c
  simp [List.cons_lt_cons_iff]
theorem dat_one {news : List (Addr × Obj)} {vs : List Value} {ds : List Dat} {c : Nat} {t : Tok} (h : DatAll news vs ds) : DatAll news (vs ++ [Value.str ⟨#[c]⟩ t]) (ds ++ [dS c]) := h.append (.one (.str _ _))
theorem sub_news {α : Type} {A B : α} {l k : List α} : ∀ p ∈ B :: l, p ∈ A :: B :: (l ++ k) := by
  intro p hp
  rcases List.mem_cons.mp hp with rfl | hp
  · exact .tail _ (.head _)
  · exact .tail _ (.tail _ (List.mem_append.mpr (.inl hp)))
theorem sub_own {α : Type} {A B : α} {l k : List α} : ∀ p ∈ k, p ∈ A :: B :: (l ++ k) := fun _ hp => .tail _ (.tail _ (List.mem_append.mpr (.inr hp)))
theorem dS_ok {l : List Nat} (h : ∀ d ∈ l, d < 55296) : ∀ d ∈ l.map dS, kqdOk 8 d = true := by
  intro d hd
  obtain ⟨c, hc, rfl⟩ := List.mem_map.mp hd
  have := h c hc
  show PyData.strOk ⟨#[c]⟩ = true
  simp [PyData.strOk]
  omega

set_option maxRecDepth 100000 in
set_option maxHeartbeats 8000000 in
theorem stack_spec (w : World) (mean : ExcName → Option Value) (mg mb : Str → Option Value)
    (dp un : Nat) (gd : Option (List Code)) (cn : Str) (cs : Scope) (a : Addr) (ccd : Value) (cl : List (Str × Addr)) (outer : List Env) (A₀ : Around) (base h₀ : Heap) (L : Addr) (m : Str → Option Value) (news : List (Addr × Obj)) (s : Shared) (Q E : Value → Shared → Prop)
    (x : Str) (t₁ : Tok)
    (B : Below A₀ base outer h₀) (F : Fr h₀ L s.heap m) (X : (Mine.hd.heap_39 w.params).In h₀) (N : News h₀ L s.heap news)
    (T : Top Mine.hd.view_39 (looseW Mine.hd.view_39 [Str.ofString "GetoptError"]) mean mg mb h₀) (hk : cs.kind = .function)
    (hxl : x.length ≤ 1000) (hx : ∀ d ∈ x.cps.toList, d < 55296)
    (hd : dp + 2 < recursionLimit) (hu : un + 100 < cLine)
    (ret : ∀ t h' tk', Fr h₀ L h' m → News h₀ L h' news → Q (.str ⟨(stOf x.cps.toList).toArray⟩ t) { s with heap := h', toks := tk' }) :
    wpAny (model PySem.Challenge.rw_dm0123_05.row.prog w) (ktrTop dp un gd cn cs L a ccd cl outer) (call (.ref 84) [.str x t₁]) Q E s := by
  revert X
  k_fill
  k_with_none
  w_top off
  intro X
  refine wpAny_call ?_
  k_dflt ktr_enter
  walk_at "myfor"
  rename Fr _ _ _ _ => F₁
  rename News _ _ _ _ => N₁
  rename ∀ p ∈ news, _ => hS
  with_unfolding_all refine For_invVF F₁ rfl rfl ?_
  walk_at "myiter"
  replace hS := fun p hp => Nat.ne_of_lt (hS p hp)
  refine KStt.kst_text (σ := StS) (fun z => (_, listOf z.vs.toArray z.n) :: news) (fun z => [(Str.ofString "out", .str ⟨z.o.toArray⟩ z.to)]) (fun _ => True) []
    (fun pre z => stRun (pre.map Int.toNat) = (z.o, z.st) ∧ DatAll [] z.vs (z.st.reverse.map dS) ∧ z.o.length + z.st.length = pre.length) ⟨[], [], ?to, [], 0⟩ rfl F₁ (kst_newsOf N₁ (fun p hp => .tail _ hp)) trivial ?ka ⟨rfl, .nil, rfl⟩ ?kb ?kc
  case ka => kst_all
  case kb =>
    rintro ⟨o, st, to, vs, n⟩ pre post c t u h tk own hcodes hoff _ ⟨hrun, hD, hlen⟩ F₂ N₂
    dsimp only [kstB] at hrun hD hlen F₂ N₂
    try k_fold
    walk_at "mywhile"
    refine ksw_while (σ := StS) (fun z => (_, listOf z.vs.toArray z.n) :: (news ++ own)) (fun z => [(Str.ofString "out", .str ⟨z.o.toArray⟩ z.to)]) (fun _ => True) []
      (fun z => stStep (z.o, z.st) c = stStep (o, st) c ∧ DatAll [] z.vs (z.st.reverse.map dS) ∧ z.o.length + z.st.length = pre.length ∧ ∀ d ∈ z.st, d < 55296) (fun z => z.st.length) ⟨o, st, to, vs, n⟩ F₂ N₂ trivial ?kd ⟨rfl, hD, hlen, ?kl⟩ ?ke
    case kd => kst_all
    case kl =>
      intro d hd
      refine hx d ?_
      have h1 : d ∈ pre.map Int.toNat := by
        have h2 := mem_run (pre.map Int.toNat) ([], []) (d := d) (.inr (by
          have e : (pre.map Int.toNat).foldl stStep ([], []) = (o, st) := hrun
          rw [e]; exact hd))
        simpa using h2
      rw [← codes_nat, hcodes, List.map_append]
      exact List.mem_append.mpr (.inl h1)
    case ke =>
      rintro ⟨o₁, st₁, to₁, vs₁, n₁⟩ u₁ h₁ tk₁ _ ⟨hst, hD₁, hlen₁, hb₁⟩ F₃ N₃
      dsimp only [kstB] at hst hD₁ hlen₁ hb₁ F₃ N₃
      try k_fold
      have hol' : o₁.length + st₁.length ≤ 1000 := by
        have e := KStt.codes_length x
        rw [hcodes, List.length_append] at e
        omega
      have hok : ∀ d ∈ st₁.reverse.map dS, kqdOk 8 d = true := dS_ok fun d hd => hb₁ d (List.mem_reverse.mp hd)
      have hol : Str.length ⟨o₁.toArray⟩ ≤ 1000 := by
        show o₁.toArray.size ≤ 1000
        rw [List.size_toArray]; omega
      have hvl : vs₁.length ≤ 1000 := by
        rw [hD₁.length, List.length_map, List.length_reverse]; omega
      have hoffS : ∀ p ∈ news ++ own, p.1 ≠ _ := List.forall_mem_append.mpr ⟨hS, fun p hp => hoff p hp _ (.head _)⟩
      cases st₁ with
      | nil =>
        rw [dat_nil hD₁] at N₃
        walk_at "mysteps"
        rename Fr _ _ _ _ => F₅
        rename News _ _ _ _ => N₅
        refine kst_end ⟨o₁, [c], ?km, [.str ⟨#[c]⟩ t], n₁ + 1⟩ F₅ N₅ sub_news sub_own rfl trivial ?kn ?ko ⟨?kp, .one (.str _ _), ?kq⟩
        case kn => kst_all
        case ko =>
          intro z hz hp _
          have hz2 : z ≠ Str.ofString "out" := hp _ (.head _)
          simp [hz, hz2]
        case kp => rw [run_step, hrun, ← hst, step_nil]
        case kq =>
          rw [List.length_append]
          dsimp only [List.length_cons, List.length_nil] at hlen₁ ⊢
          omega
      | cons d r =>
        rw [List.reverse_cons, List.map_append] at hD₁ hok
        obtain ⟨us, td, rfl, hD₂⟩ := dat_last hD₁
        rw [List.length_append] at hvl
        walk_at "mysteps"
        · rename Fr _ _ _ _ => F₅
          rename News _ _ _ _ => N₅
          rename (_ < Array.toList _) => hlt
          rw [one_lt] at hlt
          rw [app_one] at F₅
          refine ksw_end ⟨o₁ ++ [d], r, ?kr, us, n₁ + 1⟩ F₅ N₅ sub_two trivial ?ks ?kt ⟨?ku, hD₂, ?kv, fun d' h' => hb₁ d' (.tail _ h')⟩ (Nat.lt_succ_self _)
          case ks => kst_all
          case kt => ksw_same
          case ku => rw [← hst, step_lt hlt]
          case kv =>
            rw [List.length_append]
            dsimp only [List.length_cons, List.length_nil] at hlen₁ ⊢
            omega
        · rename Fr _ _ _ _ => F₅
          rename News _ _ _ _ => N₅
          rename (¬ (_ < Array.toList _)) => hlt
          rw [one_lt] at hlt
          rw [List.push_toArray] at N₅
          refine kst_end ⟨o₁, c :: d :: r, ?kw, us ++ [.str ⟨#[d]⟩ td] ++ [.str ⟨#[c]⟩ t], n₁ + 1⟩ F₅ N₅ sub_news sub_own rfl trivial ?kx ?ky ⟨?kz, ?kaa, ?kab⟩
          case kx => kst_all
          case ky =>
            intro z hz hp _
            have hz2 : z ≠ Str.ofString "out" := hp _ (.head _)
            simp [hz, hz2]
          case kz => rw [run_step, hrun, ← hst, step_ge hlt]
          case kaa =>
            dsimp only
            rw [List.reverse_cons, List.map_append, List.reverse_cons, List.map_append]
            exact dat_one hD₁
          case kab =>
            rw [List.length_append]
            dsimp only [List.length_cons, List.length_nil] at hlen₁ ⊢
            omega
  case kc =>
    rintro ⟨o, st, to, vs, n⟩ u h tk _ ⟨hrun, hD, hlen⟩ F₂ N₂
    dsimp only [kstB] at hrun hD hlen F₂ N₂
    dsimp only
    try k_fold
    walk_at "mywhile"
    refine ksw_while (σ := StS) (fun z => (_, listOf z.vs.toArray z.n) :: news) (fun z => [(Str.ofString "out", .str ⟨z.o.toArray⟩ z.to)]) (fun _ => True) []
      (fun z => z.o ++ z.st = o ++ st ∧ DatAll [] z.vs (z.st.reverse.map dS)) (fun z => z.st.length) ⟨o, st, to, vs, n⟩ F₂ N₂ trivial ?kd ⟨rfl, hD⟩ ?ke
    case kd => kst_all
    case ke =>
      rintro ⟨o₁, st₁, to₁, vs₁, n₁⟩ u₁ h₁ tk₁ _ ⟨hst, hD₁⟩ F₃ N₃
      dsimp only [kstB] at hst hD₁ F₃ N₃
      try k_fold
      have hol' : o₁.length + st₁.length ≤ 1000 := by
        have e := congrArg List.length hst
        rw [List.length_append, List.length_append, hlen, KStt.codes_length] at e
        omega
      have hok : ∀ d ∈ st₁.reverse.map dS, kqdOk 8 d = true := by
        refine dS_ok fun d hd => hx d ?_
        have h1 : d ∈ o ++ st := by rw [← hst]; exact List.mem_append.mpr (.inr (List.mem_reverse.mp hd))
        have h2 := mem_run ((KStt.codes x).map Int.toNat) ([], []) (d := d) (by
          have e : ((KStt.codes x).map Int.toNat).foldl stStep ([], []) = (o, st) := hrun
          rw [e]; exact List.mem_append.mp h1)
        rw [codes_nat] at h2
        simpa using h2
      have hol : Str.length ⟨o₁.toArray⟩ ≤ 1000 := by
        show o₁.toArray.size ≤ 1000
        rw [List.size_toArray]; omega
      have hvl : vs₁.length ≤ 1000 := by
        rw [hD₁.length, List.length_map, List.length_reverse]; omega
      cases st₁ with
      | nil =>
        rw [dat_nil hD₁] at N₃
        walk_at "mysteps"
        rename Fr h₀ L _ m => kF
        rename News h₀ L _ _ => kN
        have e : o₁ = stOf x.cps.toList := by
          rw [List.append_nil] at hst
          rw [codes_nat] at hrun
          rw [hst, stOf, hrun]
        rw [e]
        exact ret _ _ _ kF (kst_newsOf kN fun p hp => .tail _ (.tail _ hp))
      | cons d r =>
        rw [List.reverse_cons, List.map_append] at hD₁ hok
        obtain ⟨us, td, rfl, hD₂⟩ := dat_last hD₁
        rw [List.length_append] at hvl
        walk_at "mysteps"
        · exfalso
          rename (decide _ = true) => he
          simp at he
        · rename Fr _ _ _ _ => F₅
          rename News _ _ _ _ => N₅
          rw [app_one] at F₅
          refine ksw_end ⟨o₁ ++ [d], r, ?kf, us, n₁ + 1⟩ F₅ N₅ sub_two trivial ?kg ?kh ⟨?ki, hD₂⟩ (Nat.lt_succ_self _)
          case kg => kst_all
          case kh => ksw_same
          case ki => rw [List.append_assoc]; exact hst
end
/-! W5 -/
section
def sg (c : Nat) : Str := ⟨#[c]⟩

theorem strs_of_items {x : Str} {vs : List Value} (h1 : vs.length = x.cps.size) (h2 : ∀ (j : Nat) (v : Value), vs[j]? = some v → SignAt x j v) : StrsAre vs (x.cps.toList.map sg) := by
  obtain ⟨⟨cs⟩⟩ := x
  induction vs generalizing cs with
  | nil =>
    have : cs = [] := by
      have : cs.length = 0 := by simpa using h1.symm
      simpa using this
    subst this
    exact .nil
  | cons v vs ih =>
    cases cs with
    | nil => simp at h1
    | cons c cs =>
      obtain ⟨d, u, hd, hv⟩ := h2 0 v rfl
      have hc : d = c := by simpa using hd.symm
      subst hv
      subst hc
      refine .cons _ _ (ih cs (by simpa using h1) fun j v hj => ?_)
      obtain ⟨e, u', he, hv'⟩ := h2 (j + 1) v (by simpa using hj)
      exact ⟨e, u', by simpa using he, hv'⟩

theorem sg_lt {c d : Nat} : PySem.Spec.ltCps (sg c).cps.toList (sg d).cps.toList = decide (c < d) := by
  rw [ltCps_eq]
  show decide ([c] < [d]) = decide (c < d)
  simp [List.cons_lt_cons_iff]
theorem rising_sg : ∀ (p : Nat) (l : List Nat), risingS (sg p) (l.map sg) = true → (p :: l).Pairwise (· ≤ ·)
  | p, [], _ => by simp
  | p, c :: l, h => by
    have h' : (!PySem.Spec.ltCps (sg c).cps.toList (sg p).cps.toList && risingS (sg c) (l.map sg)) = true := h
    rw [Bool.and_eq_true, sg_lt] at h'
    have ih := rising_sg c l h'.2
    have hpc : p ≤ c := by simpa using h'.1
    rw [List.pairwise_cons]
    refine ⟨fun d hd => ?_, ih⟩
    rcases List.mem_cons.mp hd with rfl | hd
    · exact hpc
    · exact Nat.le_trans hpc ((List.pairwise_cons.mp ih).1 d hd)
theorem sorted_sg (l : List Nat) (h : sortedS (l.map sg) = true) : l.Pairwise (· ≤ ·) := by
  cases l with
  | nil => exact .nil
  | cons p l => exact rising_sg p l h
theorem perm_sg {ss : List Str} {cs : List Nat} (h : ss.Perm (cs.map sg)) : ∃ l : List Nat, ss = l.map sg ∧ l.Perm cs := by
  refine ⟨ss.map fun x => x.cps.toList.headD 0, ?_, ?_⟩
  · rw [List.map_map]
    conv => lhs; rw [← List.map_id ss]
    refine List.map_congr_left fun x hx => ?_
    obtain ⟨c, _, rfl⟩ := List.mem_map.mp (h.mem_iff.mp hx)
    rfl
  · have h1 := h.map fun x : Str => x.cps.toList.headD 0
    rw [List.map_map] at h1
    have e : cs.map ((fun x : Str => x.cps.toList.headD 0) ∘ sg) = cs := by
      conv => rhs; rw [← List.map_id cs]
      exact List.map_congr_left fun _ _ => rfl
    rwa [e] at h1

section
variable {prog : Program} {w : World} {A : Around} {E : Value → Shared → Prop} {s : Shared}
theorem sorted_text {h₀ : Heap} {L : Addr} {m : Str → Option Value} {news : List (Addr × Obj)} {x : Str} {t : Tok} {Q : Value → Shared → Prop}
    (hh : A.handled = none) (F : Fr h₀ L s.heap m) (N : News h₀ L s.heap news) (h64 : x.length < 64)
    (h : ∀ (D : Addr) (h' : Heap) (vs : List Value) (l : List Nat) (e tk : Nat), Fr h₀ L h' m → News h₀ L h' ((D, listOf vs.toArray e) :: news) → (∀ p ∈ news, p.1 < D) → StrsAre vs (l.map sg) → l.Perm x.cps.toList → l.Pairwise (· ≤ ·) → Q (.ref D) { s with heap := h', toks := tk }) :
    wpAny (model prog w) A (call (.builtin "sorted") [.str x t]) Q E s := by
  refine Calls.call_function_entry kind_sorted plain_sorted entry_sorted (args_sorted1 _) ?_
  unfold Builtin.«sorted»
  refine wpAny_bind (m := checkCount "sorted" 1 1 _) (wpAny_pure ?_)
  have hz : x.cps.size < 64 := h64
  refine wpAny_bind (wpAny_collect_str (A := A.in1) hh x t (fun s' acc hk hg hdr ho hacc => ?_) (by rw [sizeLine_eq]; omega))
  have hsl : acc.toList.length = x.cps.size := by rw [Array.length_toList]; exact hacc.1
  refine wpAny_bind (wpAny_newList ?_ (by rw [sizeLine_eq]; omega))
  have hoL : (s'.heap.push (seqObj "list" acc.toList.toArray 0)).get? s'.heap.objs.size = some (seqObj "list" acc.toList.toArray 0) := Heap.get?_push_size _ rfl
  have hS := strs_of_items hsl fun j v hj => hacc.2 j v (by simpa using hj)
  refine wpAny_bind (wpAny_holding (wpAny_call_entry slot_list_sort ⟨_, hoL, rfl⟩ entry_list_sort (list_sort_treeK strKind_oneLt hoL hS.keysOf (fun v₁ v₂ rest e => keyKind_strs (by rw [← e]; exact hS)) (by omega) fun st' hp hs => ⟨_, rfl, ?_⟩) (args_list_sort _)))
  obtain ⟨ss', h1, h2, h3⟩ := sorted_out_str hS hp hs
  obtain ⟨l, rfl, hl⟩ := perm_sg h2
  refine wpAny_pure ⟨_, rfl, ?_⟩
  obtain ⟨e, he⟩ := sortedHeap_at (out := (arrOf st').map (·.2)) hoL
  have kept : ∀ b o, s'.heap.get? b = some o → (sortedHeap (s'.heap.push (seqObj "list" acc.toList.toArray 0)) s'.heap.objs.size acc.toList ((arrOf st').map (·.2))).get? b = some o := by
    intro b o hb
    have hlt := Heap.lt_size hb
    rw [sortedHeap_old (Nat.ne_of_lt hlt) (by rw [size_push']; exact Nat.lt_succ_of_lt hlt)]
    exact Heap.get?_push_of_some _ hb
  have F' : Fr h₀ L s'.heap m := F.kept hk
  have N' : News h₀ L s'.heap news := fun p hp => ⟨hk _ _ (N p hp).1, (N p hp).2⟩
  have key := h s'.heap.objs.size _ ((arrOf st').map (·.2)).toList l e s'.toks (F'.kept kept) (N'.kept_cons F' kept (Nat.le_refl _) he) (fun p hp => Heap.lt_size (N' p hp).1) h1 hl (sorted_sg l h3)
  have es : s' = { s with heap := s'.heap, toks := s'.toks } := by
    cases s'; cases s; simp_all
  rw [es]
  exact key
end

theorem app_nil_str (x : Str) : x ++ (⟨#[]⟩ : Str) = x := by
  refine Str.ext' (Array.toList_inj.mp ?_)
  rw [Str.cps_append, Array.toList_append]
  simp
theorem app_list (a b : List Nat) : (⟨a.toArray⟩ : Str) ++ (⟨b.toArray⟩ : Str) = ⟨(a ++ b).toArray⟩ := by
  refine Str.ext' (Array.toList_inj.mp ?_)
  rw [Str.cps_append, Array.toList_append]
theorem join_sg : ∀ l : List Nat, Str.join ⟨#[]⟩ (l.map sg) = ⟨l.toArray⟩
  | [] => rfl
  | [c] => rfl
  | c :: d :: l => by
    show sg c ++ ⟨#[]⟩ ++ Str.join ⟨#[]⟩ ((d :: l).map sg) = _
    rw [join_sg (d :: l), app_nil_str]
    exact app_list [c] (d :: l)
theorem sg_sum (l : List Nat) : ((l.map sg).map (·.length)).sum = l.length := by
  induction l with
  | nil => rfl
  | cons c l ih =>
    rw [List.map_cons, List.map_cons, List.sum_cons, ih, List.length_cons]
    show 1 + l.length = _
    omega
theorem join_text_eq (l : List Nat) : Txt.join (Str.ofString "") (l.map sg) = ⟨l.toArray⟩ := by
  show Builtin.Str.glued (Str.ofString "") (l.map sg) = _
  rw [StrLaws.glued_eq_join, empty_str, join_sg]

section
variable {prog : Program} {w : World} {A : Around} {E : Value → Shared → Prop} {s : Shared}
theorem join_text {h₀ : Heap} {L D : Addr} {news : List (Addr × Obj)} {vs : List Value} {l : List Nat} {n : Nat} {t : Tok} {Q : Value → Shared → Prop}
    (N : News h₀ L s.heap news) (hm : (D, listOf vs.toArray n) ∈ news) (hS : StrsAre vs (l.map sg)) {y : Str} (hP : l.Perm y.cps.toList) (hy : y.length ≤ 1000)
    (h : ∀ t' k, Str.length ⟨l.toArray⟩ = y.length → Q (.str ⟨l.toArray⟩ t') { s with toks := k }) : wpAny (model prog w) A (call (.builtin "str.join") [.str (Str.ofString "") t, .ref D]) Q E s := by
  have e := sg_sum l
  have e2 := hP.length_eq
  have e3 : y.cps.toList.length = y.length := Array.length_toList
  refine join_listW ⟨_, N.get hm, rfl, n, rfl⟩ (by simpa using hS) (by rw [empty_str]; decide) ?_ fun t' k => by
    rw [join_text_eq]
    exact h t' k (by show l.toArray.size = y.length; rw [List.size_toArray]; omega)
  rw [e, List.length_map]
  omega
end

/-! the plain law -/
theorem stRun_app (a b : List Nat) : stRun (a ++ b) = b.foldl stStep (stRun a) := by
  unfold stRun; rw [List.foldl_append]
theorem step_all {o st : List Nat} {c : Nat} (h : ∀ d ∈ st, d < c) : stStep (o, st) c = (o ++ st, [c]) := by
  have hh : st.takeWhile (· < c) = st ∧ st.dropWhile (· < c) = [] := by
    induction st with
    | nil => exact ⟨rfl, rfl⟩
    | cons d st ih =>
      have hd : d < c := h d (.head _)
      obtain ⟨a, b⟩ := ih fun e he => h e (.tail _ he)
      exact ⟨by simp [hd, a], by simp [hd, b]⟩
  obtain ⟨h1, h2⟩ := hh
  unfold stStep
  rw [h1, h2]
theorem tw_app {st : List Nat} {b c : Nat} (h : b < c) : (st ++ [c]).takeWhile (· < b) = st.takeWhile (· < b) ∧ (st ++ [c]).dropWhile (· < b) = st.dropWhile (· < b) ++ [c] := by
  induction st with
  | nil =>
    have : ¬ c < b := by omega
    simp [this]
  | cons d st ih =>
    by_cases hd : d < b
    · simp [hd, ih.1, ih.2]
    · simp [hd]
theorem step_under {p o st : List Nat} {b c : Nat} (h : b < c) : stStep (p ++ o, st ++ [c]) b = (p ++ (stStep (o, st) b).1, (stStep (o, st) b).2 ++ [c]) := by
  unfold stStep
  rw [(tw_app h).1, (tw_app h).2]
  simp
theorem run_under {p : List Nat} {c : Nat} : ∀ (B : List Nat) (o st : List Nat), (∀ d ∈ B, d < c) → B.foldl stStep (p ++ o, st ++ [c]) = (p ++ (B.foldl stStep (o, st)).1, (B.foldl stStep (o, st)).2 ++ [c])
  | [], _, _, _ => rfl
  | b :: B, o, st, h => by
    rw [List.foldl_cons, List.foldl_cons, step_under (h b (.head _)), run_under B _ _ fun d hd => h d (.tail _ hd)]
theorem stOf_split {A B : List Nat} {c : Nat} (hA : ∀ d ∈ A, d < c) (hB : ∀ d ∈ B, d < c) : stOf (A ++ c :: B) = stOf A ++ (stOf B ++ [c]) := by
  have h1 : stRun (A ++ c :: B) = (stOf A ++ (stRun B).1, (stRun B).2 ++ [c]) := by
    rw [stRun_app, List.foldl_cons]
    have e : stStep (stRun A) c = (stOf A ++ [], [] ++ [c]) := by
      have h2 : ∀ d ∈ (stRun A).2, d < c := by
        intro d hd
        rcases mem_run A ([], []) (.inr hd) with h | h
        · exact hA d h
        · simp at h
      rw [show stRun A = ((stRun A).1, (stRun A).2) from rfl, step_all h2]
      simp [stOf]
    rw [e, run_under B [] [] hB]
    rfl
  unfold stOf
  rw [h1]
  simp [stOf]
theorem step_len (r : List Nat × List Nat) (c : Nat) : (stStep r c).1.length + (stStep r c).2.length = r.1.length + r.2.length + 1 := by
  unfold stStep
  have e := congrArg List.length (List.takeWhile_append_dropWhile (p := (decide <| · < c)) (l := r.2))
  rw [List.length_append] at e
  rw [List.length_append, List.length_cons]
  omega
theorem run_len : ∀ (cs : List Nat) (r : List Nat × List Nat), (cs.foldl stStep r).1.length + (cs.foldl stStep r).2.length = r.1.length + r.2.length + cs.length
  | [], r => rfl
  | c :: cs, r => by
    rw [List.foldl_cons, run_len cs, step_len, List.length_cons]
    omega
theorem stOf_len (cs : List Nat) : (stOf cs).length = cs.length := by
  unfold stOf
  rw [List.length_append]
  have := run_len cs ([], [])
  simpa [stRun] using this

theorem idx_app {l : List Nat} {c : Nat} {r : List Nat} (h : c ∉ l) : (l ++ c :: r).idxOf c = l.length := by
  induction l with
  | nil => simp
  | cons a l ih =>
    have ha : a ≠ c := fun e => h (by rw [e]; exact .head _)
    rw [List.cons_append, List.idxOf_cons, (by simpa using ha : (a == c) = false), cond_false, ih fun hm => h (.tail _ hm)]
    rfl
/-- the table of a text's signs, in order, with a colon behind: the greatest sign alone takes an argument -/
theorem table_law {cs l : List Nat} {so : Str} (hn : cs.Nodup) (h58 : 58 ∉ cs) (hne : cs ≠ []) (hp : l.Perm cs) (hs : l.Pairwise (· ≤ ·)) (hso : so.cps.toList = l ++ [58]) :
    ∃ k c, cs[k]? = some c ∧ hasB so c = true ∧ (∀ d ∈ cs.take k, hasB so d = false) ∧ (∀ d ∈ cs.take k, d < c) ∧ (∀ d ∈ cs.drop (k + 1), d < c) ∧ cs = cs.take k ++ c :: cs.drop (k + 1) := by
  have hln : l.Nodup := hp.nodup_iff.mpr hn
  have hlne : l ≠ [] := fun e => hne (by rw [e] at hp; exact hp.symm.eq_nil)
  obtain ⟨l₀, c, rfl⟩ : ∃ l₀ c, l = l₀ ++ [c] := ⟨l.dropLast, l.getLast hlne, (List.dropLast_concat_getLast hlne).symm⟩
  have hc : c ∈ cs := hp.mem_iff.mp (by simp)
  obtain ⟨k, hk⟩ := List.mem_iff_getElem?.mp hc
  have hcl : c ∉ l₀ := by
    intro hm
    rw [List.nodup_append] at hln
    exact hln.2.2 c hm c (by simp) rfl
  have hlt : ∀ d ∈ cs, d ≠ c → d ∈ l₀ ∧ d < c := by
    intro d hd hdc
    have h1 : d ∈ l₀ := by
      rcases List.mem_append.mp (hp.mem_iff.mpr hd) with h | h
      · exact h
      · exact absurd (by simpa using h) hdc
    refine ⟨h1, ?_⟩
    have h2 : d ≤ c := (List.pairwise_append.mp hs).2.2 d h1 c (by simp)
    omega
  have hbf : ∀ d ∈ cs, d ≠ c → hasB so d = false := by
    intro d hd hdc
    obtain ⟨h1, _⟩ := hlt d hd hdc
    obtain ⟨a, b, e, hda⟩ := List.append_of_mem h1 |>.elim fun a h => h.elim fun b h => (⟨a, b, h, by
      intro hm
      rw [List.nodup_append] at hln
      have := hln.1
      rw [h, List.nodup_append] at this
      exact this.2.2 d hm d (.head _) rfl⟩ : ∃ a b, l₀ = a ++ d :: b ∧ d ∉ a)
    unfold hasB
    rw [hso, e]
    have e2 : a ++ d :: b ++ [c] ++ [58] = a ++ d :: (b ++ [c] ++ [58]) := by simp
    rw [e2, idx_app hda]
    have e3 : (a ++ d :: (b ++ [c] ++ [58]))[a.length + 1]? = (b ++ [c])[0]? := by
      rw [List.getElem?_append_right (by omega)]
      cases b <;> simp
    rw [e3]
    cases hb : (b ++ [c])[0]? with
    | none => rfl
    | some f =>
      have hf : f ∈ b ++ [c] := List.mem_of_getElem? hb
      have hf2 : f ∈ cs := hp.mem_iff.mp (by
        rw [e]
        rcases List.mem_append.mp hf with h | h
        · simp [h]
        · simp at h; simp [h])
      have : f ≠ 58 := fun q => h58 (by rw [← q]; exact hf2)
      simpa using this
  have hsplit : cs = cs.take k ++ c :: cs.drop (k + 1) := by
    have h1 := List.take_append_drop k cs
    obtain ⟨hlt', hge⟩ := List.getElem?_eq_some_iff.mp hk
    rw [List.drop_eq_getElem_cons hlt', hge] at h1
    exact h1.symm
  have hnd := hn
  rw [hsplit, List.nodup_append, List.nodup_cons] at hnd
  refine ⟨k, c, hk, ?_, ?_, ?_, ?_, hsplit⟩
  · unfold hasB
    rw [hso, show l₀ ++ [c] ++ [58] = l₀ ++ c :: [58] by simp, idx_app hcl]
    rw [List.getElem?_append_right (by omega)]
    simp
  · intro d hd
    exact hbf d (List.mem_of_mem_take hd) fun e => hnd.2.2 d hd c (.head _) e
  · intro d hd
    exact (hlt d (List.mem_of_mem_take hd) fun e => hnd.2.2 d hd c (.head _) e).2
  · intro d hd
    exact (hlt d (List.mem_of_mem_drop hd) fun e => hnd.2.1.1 (by rw [← e]; exact hd)).2
end
/-! W7 -/
section
section
variable {prog : Program} {w : World} {A : Around} {E : Value → Shared → Prop} {s : Shared} {h₀ : Heap} {L : Addr} {m : Str → Option Value} {env : Env}

def TextSrc (prog : Program) (w : World) (A : Around) (h₀ : Heap) (L : Addr) (m : Str → Option Value) (env : Env) (elt : Expr) (x : Str) (scope : Scope) (cl : List (Str × Addr)) (Q : Value → Shared → Prop) (xv : Value) (s₁ : Shared) : Prop :=
  ∃ y t news, xv = .str y t ∧ A.handled = none ∧ Fr h₀ L s₁.heap m ∧ News h₀ L s₁.heap news ∧ y.cps.size ≤ sizeLine ∧
    ∀ s₂ : Shared, (∃ h, s₂ = { s₁ with heap := h }) → LCg.CompRest prog w A h₀ L m env elt x scope cl s₂ (fun _ => True) (SignAt y) (LCg.FinE h₀ L m s₂ Q) y.cps.size 0 [] news

theorem ListComp_text {elt iter : Expr} {x : Str} {px : Pos} {scope : Scope} {cl : List (Str × Addr)} {pos : Pos} {Q : Value → Shared → Prop} (F₀ : Fr h₀ L s.heap m)
    (hclos : closureFor scope env = pure cl) (hcell : ∀ y ∈ scope.names, y.2 ≠ .cell) (hkind : scope.kind = .function)
    (hnames : ∀ y ∈ scope.names, y.2 = .local → scope.names.lookup y.1 = some .local) (hx : scope.names.lookup x = some .local)
    (h : wpAny (model prog w) A (eval iter env) (TextSrc prog w A h₀ L m env elt x scope cl Q) E s)
    (hs : ∀ x, foldedSetIterable iter env x = pure x := by intro _; rfl) :
    wpAny (model prog w) A (eval (.ListComp elt [⟨.Name x px, iter, [], 0⟩] scope pos) env) Q E s := by
  rw [eval_ListComp]
  refine wpAny_comprehension_free (use := none) rfl hs hclos hkind hnames (wpAny_mono h (fun xv s₁ h₁ => ?_) fun _ _ e => e)
  obtain ⟨y, t, news, rfl, hh, F, N, hsz, R⟩ := h₁
  have fin : ∀ (o : Obj) (St : Nat → Heap → Prop) (W : Walks prog w A s₁.heap.objs.size [s₁.heap.objs.size] [s₁.heap.objs.size] y.cps.size (SignAt y) St)
      (hIo : ∀ i h, St i h → ∃ o, h.get? s₁.heap.objs.size = some o)
      (hSt : ∀ i h h' o, St i h → h.get? s₁.heap.objs.size = some o → h'.get? s₁.heap.objs.size = some o → St i h') (_ : St 0 (s₁.heap.push o)),
      wpAny (model prog w) A (newList []) (fun acc s₃ => wpAny (model prog w) A (newFunctionEnv scope env.globals cl [] env.qual none .none (some env)) (fun cenv s₄ => codeAny (model prog w) A (.compStart (.ListComp elt [⟨.Name x px, iter, [], 0⟩] scope pos) 0 (.ref s₁.heap.objs.size) acc { cenv with scope := relabel scope env }) (compPost (model prog w) A E none Q acc cenv.locals) s₄) E s₃) E { s₁ with heap := s₁.heap.push o } := by
    intro o St W hIo hSt hst
    exact LCg.block_U (elt := elt) (iter := iter) (px := px) (pos := pos) (env := env) (RR := fun acc C => compPost (model prog w) A E none Q acc C) (S := fun _ => True) W hsz hIo (fun i h h' o nw st e e' _ _ _ => hSt i h h' o st e e') hcell hkind hx hst (s₂ := { s₁ with heap := s₁.heap.push o })
      (fun b hb => by
        rw [List.mem_singleton.mp hb]
        show s₁.heap.objs.size < (s₁.heap.push _).objs.size
        rw [Heap.size_push]; exact Nat.lt_succ_self _)
      (F.keeps fun _ _ e => Heap.get?_push_of_some _ e) (N.grown fun _ _ e => Heap.get?_push_of_some _ e) (Nat.ne_of_lt F.ns.lt) (next_is_new F) (fun p hp => Nat.ne_of_lt (Heap.lt_size (N p hp).1)) trivial (R _ ⟨_, rfl⟩) (by
        intro D C h tk m' ys news' F' N' o1 hn hC₀ hD₀ hCL hDL hCD offC fin
        refine ⟨m', hn, fun h'' hs'' => fin D h'' tk (F'.change hs'' hCL hC₀) (fun p hp => ?_) o1⟩
        refine ⟨hs''.extBut _ _ ?_ (N' p hp).1, (N' p hp).2⟩
        rcases List.mem_cons.mp hp with rfl | hp
        · exact Ne.symm hCD
        · exact offC p hp)
  have stab : ∀ (ty : String) i (h h' : Heap) o, h.IsStrIter s₁.heap.objs.size ty y t i → h.get? s₁.heap.objs.size = some o → h'.get? s₁.heap.objs.size = some o → h'.IsStrIter s₁.heap.objs.size ty y t i := by
    intro ty i h h' o st e e'
    obtain ⟨o', q, r⟩ := st
    rw [e] at q
    cases q
    exact ⟨o, e', r⟩
  cases ha : y.cps.all (· < 128)
  · exact wpAny_pyIter_wide ha (fin _ _ (Walks.strWide hh _ y t) (fun i h st => by obtain ⟨o, e, _⟩ := st; exact ⟨o, e⟩) (stab _) ⟨_, Heap.get?_push_size _ rfl, rfl, rfl⟩)
  · exact wpAny_pyIter_ascii ha (fin _ _ (Walks.strAscii hh _ y t) (fun i h st => by obtain ⟨o, e, _⟩ := st; exact ⟨o, e⟩) (stab _) ⟨_, Heap.get?_push_size _ rfl, rfl, rfl⟩)
theorem compRest_ind {elt : Expr} {x : Str} {scope : Scope} {cl : List (Str × Addr)} {S : List (Addr × Obj) → Prop} {P : Nat → Value → Prop} {Fin : List Value → List (Addr × Obj) → Prop} (Inv : Nat → List Value → List (Addr × Obj) → Prop) {n : Nat} {ys₀ : List Value} {news₀ : List (Addr × Obj)}
    (h0 : Inv 0 ys₀ news₀)
    (step : ∀ i ys news, i < n → Inv i ys news → ∀ v I oI C oC D m₂ h tk (E' : Value → Shared → Prop), P i v → LCg.NsObj oC m₂ → m₂ x = some v → Fr h₀ L h m → News h₀ L h ((I, oI) :: (C, oC) :: (D, LCg.lst ys) :: news) → LCg.Off3 I C D news → ((@Ne Nat I C) ∧ (@Ne Nat I D) ∧ (@Ne Nat C D)) →
      wpAny (model prog w) A (eval elt (compEnvC scope cl C env)) (LCg.CompEnd h₀ L m { s with heap := h, toks := tk } I oI C oC D (LCg.lst ys) S (fun y news' => Inv (i + 1) (ys ++ [y]) news')) E' { s with heap := h, toks := tk })
    (fin : ∀ ys news, Inv n ys news → Fin ys news) :
    LCg.CompRest prog w A h₀ L m env elt x scope cl s S P Fin n 0 ys₀ news₀ := by
  have all : ∀ k i ys news, i + k = n → Inv i ys news → LCg.CompRest prog w A h₀ L m env elt x scope cl s S P Fin k i ys news := by
    intro k
    induction k with
    | zero =>
      intro i ys news e hi
      have : i = n := by omega
      subst this
      exact LCg.CompRest.zero (fin ys news hi)
    | succ k ih =>
      intro i ys news e hi
      refine LCg.CompRest.succ fun v I oI C oC D m₂ h tk E' hP hns hm F N off hne => ?_
      refine wpAny_mono (step i ys news (by omega) hi v I oI C oC D m₂ h tk E' hP hns hm F N off hne) (fun y s₂ q => ?_) fun _ _ e => e
      obtain ⟨h', tk', news', e', F', N', off', hS, r⟩ := q
      exact ⟨h', tk', news', e', F', N', off', hS, ih (i + 1) _ _ (by omega) r⟩
  exact all n 0 ys₀ news₀ (by omega) h0
end
def CompInv (base : List (Addr × Obj)) (cs : List Nat) (i : Nat) (ys : List Value) (news : List (Addr × Obj)) : Prop :=
  ∃ add, news = add ++ base ∧ DatAll add ys (aheadD (cs.take i)) ∧ ∀ p ∈ add, AllLt p.1 base
theorem compInv_nil {base : List (Addr × Obj)} {cs : List Nat} : CompInv base cs 0 [] base := ⟨[], rfl, .nil, fun _ h => nomatch h⟩
theorem comp_end {h₀ h' : Heap} {L I C D D' : Addr} {m : Str → Option Value} {s₁ : Shared} {oI oC oD : Obj} {base add : List (Addr × Obj)} {cs : List Nat} {i d tk : Nat} {ys : List Value} {t u : Tok}
    (F : Fr h₀ L h' m) (N : News h₀ L h' ((D', tup2 (.str (Str.ofString "-" ++ ⟨#[d]⟩) t) (.str (Str.ofString "") u)) :: (I, oI) :: (C, oC) :: (D, oD) :: (add ++ base))) (off : LCg.Off3 I C D (add ++ base))
    (l1 : I < D' ∧ C < D' ∧ D < D' ∧ AllLt D' (add ++ base)) (hDa : DatAll add ys (aheadD (cs.take i))) (hfa : ∀ p ∈ add, AllLt p.1 base) (hd : (⟨cs.toArray⟩ : Str).cps[i]? = some d) :
    LCg.CompEnd h₀ L m s₁ I oI C oC D oD (fun _ => True) (fun y news' => CompInv base cs (i + 1) (ys ++ [y]) news') (.ref D') { s₁ with heap := h', toks := tk } := by
  refine LCg.CompEnd.intro F N ((D', tup2 (.str (Str.ofString "-" ++ ⟨#[d]⟩) t) (.str (Str.ofString "") u)) :: (add ++ base)) ?_ ⟨⟨Nat.ne_of_gt l1.1, Nat.ne_of_gt l1.2.1, Nat.ne_of_gt l1.2.2.1⟩, off⟩ trivial ⟨(D', tup2 (.str (Str.ofString "-" ++ ⟨#[d]⟩) t) (.str (Str.ofString "") u)) :: add, rfl, ?_, ?_⟩
  · intro p hp
    simp only [List.mem_cons] at hp ⊢
    rcases hp with h | h | h | h | h <;> simp [h]
  · have e : cs.take (i + 1) = cs.take i ++ [d] := by
      have hd' : cs[i]? = some d := by simpa using hd
      rw [List.take_add_one, hd']; rfl
    rw [e]
    exact aheadD_succ hDa (fun p hp => .tail _ hp) (.head _)
  · intro p hp
    rcases List.mem_cons.mp hp with rfl | hp
    · exact allLt_of fun q hq => allLt_out l1.2.2.2 q (List.mem_append.mpr (.inr hq))
    · exact hfa p hp
theorem off1_out {D : Addr} : ∀ {l : List (Addr × Obj)}, LCg.Off1 D l → ∀ p ∈ l, p.1 ≠ D
  | [], _, _, h => nomatch h
  | _ :: _, h, p, hp => by
    rcases List.mem_cons.mp hp with rfl | hp
    · exact h.1
    · exact off1_out h.2 p hp
theorem sub_fin {α : Type} {D T G W D1 : α} {add l : List α} : ∀ p ∈ T :: D :: G :: W :: D1 :: (add ++ l), p ∈ D :: (add ++ T :: G :: W :: D1 :: l) := by
  intro p hp
  simp only [List.mem_cons, List.mem_append] at hp ⊢
  rcases hp with h | h | h | h | h | h | h <;> simp [h]
section
variable {prog : Program} {w : World} {A : Around} {E : Value → Shared → Prop} {s : Shared} {h₀ : Heap} {L a b : Addr} {m : Str → Option Value} {news n₁ n₂ : List (Addr × Obj)} {xs zs : List Value} {n k : Nat} {Q : Value → Shared → Prop}
theorem cat_at (F : Fr h₀ L s.heap m) (N : News h₀ L s.heap news) (ma : (a, listOf xs.toArray n) ∈ news) (mb : (b, listOf zs.toArray k) ∈ news) (hz : xs.length + zs.length ≤ sizeLine)
    (h : ∀ D h', Fr h₀ L h' m → News h₀ L h' ((D, listOf (xs ++ zs).toArray 0) :: news) → (∀ p ∈ news, p.1 < D) → Q (.ref D) { s with heap := h' }) : wpAny (model prog w) A (binaryOp .Add (.ref a) (.ref b)) Q E s :=
  kmk_add_lit F N ⟨_, N.get ma, rfl, n, rfl⟩ ⟨_, N.get mb, rfl, k, rfl⟩ rfl h hz
open Classical in
theorem ne_same {ds : List Dat} (N : News h₀ L s.heap news) (ma : (a, listOf xs.toArray n) ∈ news) (mb : (b, listOf zs.toArray k) ∈ news) (Da : DatAll n₁ xs ds) (sa : ∀ p ∈ n₁, p ∈ news) (Db : DatAll n₂ zs ds) (sb : ∀ p ∈ n₂, p ∈ news)
    (ok : ∀ d ∈ ds, kqdOk 8 d = true) (hu : A.units + 64 < cLine) (h : Q (.bool false) s) : wpAny (model prog w) A (compareOp .NotEq (.ref a) (.ref b)) Q E s :=
  kqd_ne N ma rfl rfl Da sa mb rfl rfl Db sb ok ok hu (by rw [decide_eq_true (show ds = ds from rfl)]; exact h)
end
theorem strOk_of {l : List Nat} (h : ∀ c ∈ l, c < 55296) : PyData.strOk ⟨l.toArray⟩ = true := by
  unfold PyData.strOk
  simp only [List.all_toArray, List.all_eq_true, decide_eq_true_eq]
  intro c hc
  have := h c hc
  omega
theorem dash_ok {c : Nat} (h : c < 55296) : PyData.strOk (Str.ofString "-" ++ ⟨#[c]⟩) = true := by
  have e : Str.ofString "-" = ⟨#[45]⟩ := by decide +kernel
  rw [e]
  have e2 : (⟨#[45]⟩ : Str) ++ (⟨#[c]⟩ : Str) = ⟨[45, c].toArray⟩ := app_list [45] [c]
  rw [e2]
  refine strOk_of fun d hd => ?_
  simp only [List.mem_cons, List.not_mem_nil, or_false] at hd
  rcases hd with rfl | rfl
  · decide
  · exact h
theorem pairs_ok {cs : List Nat} {k c : Nat} (h : ∀ d ∈ cs, d < 55296) (hc : cs[k]? = some c) : ∀ d ∈ aheadD (cs.take k) ++ [lastD c (cs.drop (k + 1))], kqdOk 8 d = true := by
  intro d hd
  rcases List.mem_append.mp hd with hd | hd
  · obtain ⟨e, he, rfl⟩ := List.mem_map.mp hd
    have h1 := dash_ok (h e (List.mem_of_mem_take he))
    have h2 : PyData.strOk (Str.ofString "") = true := by decide +kernel
    show ([Dat.str _, Dat.str _].all (kqdOk 7)) = true
    simp only [List.all_cons, List.all_nil, Bool.and_true, Bool.and_eq_true]
    exact ⟨h1, h2⟩
  · rw [List.mem_singleton.mp hd]
    have h1 := dash_ok (h c (List.mem_of_getElem? hc))
    show ([Dat.str _, Dat.str _].all (kqdOk 7)) = true
    simp only [List.all_cons, List.all_nil, Bool.and_true, Bool.and_eq_true]
    refine ⟨h1, ?_⟩
    show PyData.strOk (if cs.drop (k + 1) = [] then Str.ofString ":" else ⟨(cs.drop (k + 1)).toArray⟩) = true
    split
    · decide +kernel
    · exact strOk_of fun e he => h e (List.mem_of_mem_drop he)
theorem three_ok {cs : List Nat} (h : ∀ d ∈ cs, d < 55296) : ∀ d ∈ [Dat.str (Str.ofString ":"), Dat.str ⟨cs.toArray⟩, Dat.str (Str.ofString "")], kqdOk 8 d = true := by
  intro d hd
  simp only [List.mem_cons, List.not_mem_nil, or_false] at hd
  rcases hd with rfl | rfl | rfl
  · show PyData.strOk (Str.ofString ":") = true; decide +kernel
  · exact strOk_of h
  · show PyData.strOk (Str.ofString "") = true; decide +kernel
theorem two_ok {cs : List Nat} (h : ∀ d ∈ cs, d < 55296) : ∀ d ∈ [Dat.str ⟨cs.toArray⟩, Dat.str (Str.ofString "")], kqdOk 8 d = true := fun d hd => three_ok h d (.tail _ hd)
theorem three_in {a b c : Str} {t u v : Tok} : DatAll [] [Value.str a t, Value.str b u, Value.str c v] [Dat.str a, Dat.str b, Dat.str c] := .cons (.str _ _) (.cons (.str _ _) (.cons (.str _ _) .nil))
theorem two_in {b c : Str} {u v : Tok} : DatAll [] [Value.str b u, Value.str c v] [Dat.str b, Dat.str c] := .cons (.str _ _) (.cons (.str _ _) .nil)
theorem sub_nw {α : Type} {A B C T D G W D1 : α} {add nw r : List α} : ∀ p ∈ nw, p ∈ A :: B :: C :: T :: D :: G :: W :: D1 :: (add ++ (nw ++ r)) := by
  intro p hp
  simp [hp]
theorem sub_new {α : Type} {A B C T D G W D1 : α} {add r : List α} : ∀ p ∈ C :: add, p ∈ A :: B :: C :: T :: D :: G :: W :: D1 :: (add ++ r) := by
  intro p hp
  rcases List.mem_cons.mp hp with h | h <;> simp [h]
theorem sub_none {α : Type} {l : List α} : ∀ p ∈ ([] : List α), p ∈ l := fun _ h => nomatch h
theorem off_fin {h₀ h : Heap} {L T D G W D1 : Addr} {oT oD oG oW o1 : Obj} {add nw l : List (Addr × Obj)} (_N : News h₀ L h ((T, oT) :: (D, oD) :: (G, oG) :: (W, oW) :: (D1, o1) :: (add ++ (nw ++ l))))
    (hD : T ≠ D) (hG : T < G) (hW : T < W) (h1 : D1 < T) (ha : ∀ p ∈ add, T < p.1) (hn : ∀ p ∈ nw, T < p.1) (hl : ∀ p ∈ l, p.1 ≠ T) :
    ∀ p ∈ (D, oD) :: (G, oG) :: (W, oW) :: (D1, o1) :: (add ++ (nw ++ l)), p.1 ≠ T := by
  intro p hp
  simp only [List.mem_cons, List.mem_append] at hp
  rcases hp with h | h | h | h | h | h | h
  · rw [h]; exact Ne.symm hD
  · rw [h]; exact Nat.ne_of_gt hG
  · rw [h]; exact Nat.ne_of_gt hW
  · rw [h]; exact Nat.ne_of_lt h1
  · exact Nat.ne_of_gt (ha p h)
  · exact Nat.ne_of_gt (hn p h)
  · exact hl p h
end
/-! W6 -/
section
local macro_rules | `(tactic| walk_at "mysteps") => `(tactic| repeat' (first | (k_unfold; (try dsimp only)) | (k_end; wrow_close) | walk1 | (dsimp only; walk1) | (leave1; walk_say "STEP leave1"; try dsimp only) | fail "no step"))
local macro_rules | `(tactic| walk_at "mycall") => `(tactic| repeat' ((fail_if_success (with_reducible show wpAny _ _ (PySem.call (Value.ref _) _ _) _ _ _)); first | (k_unfold; (try dsimp only)) | (k_end; wrow_close) | walk1 | (dsimp only; walk1) | (leave1; walk_say "STEP leave1"; try dsimp only) | fail "no step"))
local macro_rules | `(tactic| walk_at "myfor") => `(tactic| repeat' ((fail_if_success (with_reducible show wpAny _ _ (exec (Stmt.For _ _ _ _ _) _) _ _ _)); first | (k_unfold; (try dsimp only)) | (k_end; wrow_close) | walk1 | (dsimp only; walk1) | (leave1; walk_say "STEP leave1"; try dsimp only) | fail "no step"))
local macro_rules | `(tactic| walk_at "myiter") => `(tactic| repeat' ((fail_if_success (with_reducible show wpAny _ _ (pyIter _) _ _ _)); first | (k_unfold; (try dsimp only)) | (k_end; wrow_close) | walk1 | (dsimp only; walk1) | (leave1; walk_say "STEP leave1"; try dsimp only) | fail "no step"))
local macro_rules | `(tactic| k_all) => `(tactic| assumption)

local macro_rules | `(tactic| walk_at "call builtin:list.pop") => `(tactic| (k_here; (with_reducible show wpAny _ _ (call (Value.builtin _) [Value.ref _]) _ _ _); k_dflt (refine' kl_pop ?F ?N ?e ?U ?z ?_; (case F => k_asm); (case N => k_asm); (case U => k_upd); (case e => exact kpa_last _ _); (case z => (rw [sizeLine_eq]; simp only [List.length_append, List.length_cons, List.length_nil]; omega))); intro h' F' N'))
local macro_rules | `(tactic| walk_at "call builtin:sorted") => `(tactic| (k_here; (with_reducible show wpAny _ _ (call (Value.builtin _) [Value.str _ _]) _ _ _); k_dflt (refine' sorted_text ?k0 ?k1 ?k2 ?k3 ?_; (case k0 => rfl); (case k1 => k_asm); (case k2 => k_asm); (case k3 => omega); k_whole); intro D' h' vs' l' e' tk' F' N' l1 hS' hP' hO'; (try k_lt l1)))
local macro_rules | `(tactic| walk_at "call builtin:str.join") => `(tactic| (k_here; (with_reducible show wpAny _ _ (call (Value.builtin _) [Value.str _ _, Value.ref _]) _ _ _); k_dflt (refine' join_text ?k1 ?k2 ?k3 ?k4 ?k5 ?_; (case k1 => k_asm); (case k2 => k_mem); (case k3 => assumption); (case k4 => assumption); (case k5 => omega); k_whole); intro t' k' hJ'))

local macro_rules | `(tactic| walk_at "mysign") => `(tactic| repeat' ((fail_if_success (with_reducible show wpAny _ _ (exec (Stmt.Assign [Expr.Tuple [Expr.Name (Str.ofString "sign") _, _] _ _] _ _) _) _ _ _)); first | (k_unfold; (try dsimp only)) | (k_end; wrow_close) | walk1 | (dsimp only; walk1) | (leave1; walk_say "STEP leave1"; try dsimp only) | fail "no step"))
local macro_rules | `(tactic| walk_at "mydue") => `(tactic| repeat' ((fail_if_success (with_reducible show wpAny _ _ (exec (Stmt.Assign [Expr.Name (Str.ofString "due") _] _ _) _) _ _ _)); first | (k_unfold; (try dsimp only)) | (k_end; wrow_close) | walk1 | (dsimp only; walk1) | (leave1; walk_say "STEP leave1"; try dsimp only) | fail "no step"))
theorem len_at {prog : Program} {w : World} {A : Around} {E : Value → Shared → Prop} {s : Shared} {h₀ : Heap} {L l : Addr} {news : List (Addr × Obj)} {us : List Value} {n m : Nat} {Q : Value → Shared → Prop} (N : News h₀ L s.heap news) (hm : (l, listOf us.toArray n) ∈ news) (hv : us.length = m + 1) (hfit : m ≤ 1000)
    (h : Q (.int ((m : Int) + 1) (s.toks + 1)) { s with toks := s.toks + 1 + 1 }) : wpAny (model prog w) A (call (.builtin "len") [.ref l]) Q E s := by
  have hl : s.heap.IsList l us.toArray := ⟨_, (N _ hm).1, rfl, n, rfl⟩
  have e : us.toArray.size = m + 1 := by rw [List.size_toArray, hv]
  exact len_list hl (by rw [e]; omega) (by rw [e]; exact h)
local macro_rules | `(tactic| walk_at "call builtin:len") => `(tactic| (k_here; (with_reducible show wpAny _ _ (call (Value.builtin "len") [Value.ref _]) _ _ _); k_dflt (refine' len_at ?k1 ?k2 ?k3 ?k4 ?_; (case k1 => k_asm); (case k2 => k_mem); (case k3 => assumption); (case k4 => omega); k_whole)))
theorem slice_one {cs : List Nat} {k c : Nat} (h : cs[k]? = some c) : Txt.slice ⟨cs.toArray⟩ (some (k : Int)) (some ((k : Int) + 1)) = ⟨#[c]⟩ := by
  obtain ⟨hlt, hc⟩ := List.getElem?_eq_some_iff.mp h
  have h1 := eq_of_beq (slice_closes (x := ⟨cs.toArray⟩) (i := (k : Int)) (j := (k : Int) + 1) ⟨by omega, by omega, by show (k : Int) + 1 ≤ (cs.length : Int); omega⟩)
  rw [h1]
  have e1 : ((k : Int) + 1 - (k : Int)).toNat = 1 := by omega
  have e2 : ((k : Int)).toNat = k := by omega
  rw [e1, e2]
  have e3 : (cs.drop k).take 1 = [c] := by rw [List.drop_eq_getElem_cons hlt, hc]; rfl
  show (⟨((cs.drop k).take 1).toArray⟩ : Str) = _
  rw [e3]
theorem slice_up {cs : List Nat} {k c : Nat} (h : cs[k]? = some c) : Txt.slice ⟨cs.toArray⟩ (some ((k : Int) + 1)) none = ⟨(cs.drop (k + 1)).toArray⟩ := by
  obtain ⟨hlt, _⟩ := List.getElem?_eq_some_iff.mp h
  exact slice_from (x := ⟨cs.toArray⟩) (n := k + 1) (by omega) (by show k + 1 ≤ cs.toArray.size; rw [List.size_toArray]; omega)
theorem slice_lo {cs : List Nat} {k c : Nat} (h : cs[k]? = some c) : Txt.slice ⟨cs.toArray⟩ none (some (k : Int)) = ⟨(cs.take k).toArray⟩ := by
  obtain ⟨hlt, _⟩ := List.getElem?_eq_some_iff.mp h
  have h1 := eq_of_beq (slice_closes_to (x := ⟨cs.toArray⟩) (j := (k : Int)) ⟨by omega, by show (k : Int) ≤ (cs.length : Int); omega⟩)
  rw [h1]
  have e1 : ((k : Int) - 0).toNat = k := by omega
  rw [e1]
  rfl
local macro_rules | `(tactic| walk_at "eval ListComp") => `(tactic| (k_here; k_dflt (refine ListComp_text (F₀ := by k_asm) (by with_unfolding_all rfl) (by decide) (by rfl) (by decide) (by rfl) ?_)))
theorem sub_due {α : Type} {X r G W T D1 : α} {nw l : List α} : ∀ p ∈ T :: G :: W :: D1 :: (nw ++ l), p ∈ X :: r :: G :: (nw ++ W :: T :: D1 :: l) := by
  intro p hp
  simp only [List.mem_cons, List.mem_append] at hp ⊢
  rcases hp with h | h | h | h | h | h <;> simp [h]
local macro_rules | `(tactic| walk_at "binaryOp Add ref ref") => `(tactic| (k_here; (with_reducible show wpAny _ _ (binaryOp _ (Value.ref _) (Value.ref _)) _ _ _); k_dflt (refine' cat_at ?F ?N ?a ?b ?z ?_; (case F => k_asm); (case N => k_asm); (case a => k_mem); (case b => k_mem); (case z => (rw [sizeLine_eq]; (try simp only [List.length_cons, List.length_nil]); omega)); k_whole); intro D' h' F' N' l1; (try k_lt l1)))
local macro_rules | `(tactic| walk_at "myne") => `(tactic| repeat' ((fail_if_success (with_reducible show wpAny _ _ (compareOp CmpOp.NotEq (Value.ref _) (Value.ref _)) _ _ _)); first | (k_unfold; (try dsimp only)) | (k_end; wrow_close) | walk1 | (dsimp only; walk1) | (leave1; walk_say "STEP leave1"; try dsimp only) | fail "no step"))
theorem table_law2 {cs l : List Nat} (hn : cs.Nodup) (h58 : 58 ∉ cs) (hne : cs ≠ []) (hp : l.Perm cs) (hs : l.Pairwise (· ≤ ·)) :
    ∃ k c, cs[k]? = some c ∧ hasB (⟨l.toArray⟩ ++ Str.ofString ":") c = true ∧ (∀ d ∈ cs.take k, hasB (⟨l.toArray⟩ ++ Str.ofString ":") d = false) ∧ (∀ d ∈ cs.take k, d < c) ∧ (∀ d ∈ cs.drop (k + 1), d < c) ∧ cs = cs.take k ++ c :: cs.drop (k + 1) :=
  table_law hn h58 hne hp hs (by rw [cps_app, colon_str])
theorem table_in {cs l : List Nat} (h58 : 58 ∉ cs) (hp : l.Perm cs) : ∀ d ∈ (⟨cs.toArray⟩ : Str).cps.toList, d ∈ ((⟨l.toArray⟩ : Str) ++ Str.ofString ":").cps.toList ∧ d ≠ 58 := by
  intro d hd
  have hd' : d ∈ cs := hd
  refine ⟨?_, fun e => h58 (by rw [← e]; exact hd')⟩
  rw [cps_app]
  exact List.mem_append.mpr (.inl (hp.mem_iff.mpr hd'))
theorem sub_call {α : Type} {A B W G D T D1 : α} {l : List α} : ∀ p ∈ G :: W :: T :: D1 :: l, p ∈ A :: B :: W :: G :: D :: T :: D1 :: l := by
  intro p hp
  simp only [List.mem_cons] at hp ⊢
  rcases hp with h | h | h | h | h <;> simp [h]
theorem off_call {G W T D1 : Addr} {oW oT o1 : Obj} {l : List (Addr × Obj)} (h1 : G < W) (h2 : T < G) (h3 : D1 < G) (h4 : AllLt G l) : ∀ p ∈ (W, oW) :: (T, oT) :: (D1, o1) :: l, p.1 ≠ G := by
  intro p hp
  simp only [List.mem_cons] at hp
  rcases hp with h | h | h | h
  · rw [h]; exact Nat.ne_of_gt h1
  · rw [h]; exact Nat.ne_of_lt h2
  · rw [h]; exact Nat.ne_of_lt h3
  · exact Nat.ne_of_lt (allLt_out h4 p h)
theorem sub_start {α : Type} {A B C : α} {l : List α} : ∀ p ∈ [B] ++ ([C] ++ []), p ∈ A :: B :: C :: l := by
  intro p hp
  simp only [List.append_nil, List.cons_append, List.nil_append, List.mem_cons, List.not_mem_nil, or_false] at hp ⊢
  rcases hp with hp | hp
  · exact .inr (.inl hp)
  · exact .inr (.inr (.inl hp))
theorem mem_led {α : Type} {a T D1 : α} {tl own : List α} (h : a ∈ D1 :: tl) : a ∈ T :: D1 :: (tl ++ own) := by
  rcases List.mem_cons.mp h with h | h
  · rw [h]; exact .tail _ (.head _)
  · exact .tail _ (.tail _ (List.mem_append.mpr (.inl h)))
theorem ne_led {T D1 D : Addr} {o1 o : Obj} {tl own : List (Addr × Obj)} (hoff : ∀ p ∈ tl ++ own, p.1 ≠ T) (h : (D, o) ∈ (D1, o1) :: tl) (h1 : D1 ≠ T) : D ≠ T := by
  rcases List.mem_cons.mp h with h | h
  · rw [(Prod.mk.inj h).1]; exact h1
  · exact hoff _ (List.mem_append.mpr (.inl h))
structure LwS where
  o : List Nat
  td : List (List Nat × Bool)
  to : Tok
  vs : List Value
  n : Nat
def dT (e : List Nat × Bool) : Dat := Dat.tuple [Dat.str ⟨e.1.toArray⟩, Dat.bool e.2]
def valT (e : List Nat × Bool) : List Nat := if e.2 then e.1 else stOf e.1
def costT (e : List Nat × Bool) : Nat := if e.2 then 1 else 3 * e.1.length + 1
def OkT (e : List Nat × Bool) : Prop := e.1.Nodup ∧ 58 ∉ e.1 ∧ (∀ c ∈ e.1, c < 55296) ∧ e.1.length ≤ 49
structure LwP (word : List Nat) (pre : List Int) (z : LwS) : Prop where
  out : z.o ++ z.td.flatMap valT = stOf word
  cost : pre.length + (z.td.map costT).sum = 3 * word.length + 1
  ok : ∀ e ∈ z.td, OkT e
theorem sum_cost : ∀ td : List (List Nat × Bool), td.length ≤ (td.map costT).sum
  | [] => Nat.le_refl _
  | e :: td => by
    have h := sum_cost td
    have h1 : 1 ≤ costT e := by unfold costT; split <;> omega
    rw [List.map_cons, List.sum_cons, List.length_cons]
    omega
theorem lw_true {word o cs : List Nat} {td : List (List Nat × Bool)} {pre : List Int} {k : Int} {to : Tok} {vs : List Value} {n : Nat} (hout : o ++ ((cs, true) :: td).flatMap valT = stOf word) (hcost : pre.length + (((cs, true) :: td).map costT).sum = 3 * word.length + 1)
    (hok : ∀ e ∈ (cs, true) :: td, OkT e) : LwP word (pre ++ [k]) ⟨o ++ cs, td, to, vs, n⟩ := by
  refine ⟨?_, ?_, fun e he => hok e (.tail _ he)⟩
  · rw [List.flatMap_cons] at hout
    rw [List.append_assoc]
    exact hout
  · rw [List.map_cons, List.sum_cons] at hcost
    have e : costT (cs, true) = 1 := rfl
    rw [List.length_append, List.length_singleton]
    dsimp only
    omega
theorem lw_nil {word o : List Nat} {td : List (List Nat × Bool)} {pre : List Int} {k : Int} {to : Tok} {vs : List Value} {n : Nat} (hout : o ++ (([], false) :: td).flatMap valT = stOf word) (hcost : pre.length + ((([], false) :: td).map costT).sum = 3 * word.length + 1)
    (hok : ∀ e ∈ ([], false) :: td, OkT e) : LwP word (pre ++ [k]) ⟨o, td, to, vs, n⟩ := by
  refine ⟨?_, ?_, fun e he => hok e (.tail _ he)⟩
  · rw [List.flatMap_cons] at hout
    exact hout
  · rw [List.map_cons, List.sum_cons] at hcost
    have e : costT ([], false) = 1 := rfl
    rw [List.length_append, List.length_singleton]
    dsimp only
    omega
theorem lw_cons {word o cs A B : List Nat} {c : Nat} {td : List (List Nat × Bool)} {pre : List Int} {k : Int} {to : Tok} {vs : List Value} {n : Nat} (hout : o ++ ((cs, false) :: td).flatMap valT = stOf word) (hcost : pre.length + (((cs, false) :: td).map costT).sum = 3 * word.length + 1)
    (hok : ∀ e ∈ (cs, false) :: td, OkT e) (hA : ∀ d ∈ A, d < c) (hB : ∀ d ∈ B, d < c) (hs : cs = A ++ c :: B) : LwP word (pre ++ [k]) ⟨o, (A, false) :: (B, false) :: ([c], true) :: td, to, vs, n⟩ := by
  obtain ⟨o1, o2, o3, o4⟩ := hok _ (.head _)
  dsimp only at o1 o2 o3 o4
  subst hs
  rw [List.nodup_append, List.nodup_cons] at o1
  rw [List.length_append, List.length_cons] at o4
  refine ⟨?_, ?_, ?_⟩
  · rw [List.flatMap_cons] at hout
    dsimp only
    rw [List.flatMap_cons, List.flatMap_cons, List.flatMap_cons, ← hout]
    show _ = o ++ (stOf (A ++ c :: B) ++ td.flatMap valT)
    rw [stOf_split hA hB]
    show o ++ (stOf A ++ (stOf B ++ ([c] ++ td.flatMap valT))) = _
    simp
  · rw [List.map_cons, List.sum_cons] at hcost
    dsimp only
    rw [List.map_cons, List.sum_cons, List.map_cons, List.sum_cons, List.map_cons, List.sum_cons, List.length_append, List.length_singleton]
    have e0 : costT (A ++ c :: B, false) = 3 * (A ++ c :: B).length + 1 := rfl
    have e1 : costT (A, false) = 3 * A.length + 1 := rfl
    have e2 : costT (B, false) = 3 * B.length + 1 := rfl
    have e3 : costT ([c], true) = 1 := rfl
    rw [e0, List.length_append, List.length_cons] at hcost
    rw [e1, e2, e3]
    omega
  · intro e he
    simp only [List.mem_cons] at he
    rcases he with rfl | rfl | rfl | he
    · exact ⟨o1.1, fun h => o2 (List.mem_append.mpr (.inl h)), fun d hd => o3 d (List.mem_append.mpr (.inl hd)), by dsimp only; omega⟩
    · exact ⟨o1.2.1.2, fun h => o2 (List.mem_append.mpr (.inr (.tail _ h))), fun d hd => o3 d (List.mem_append.mpr (.inr (.tail _ hd))), by dsimp only; omega⟩
    · exact ⟨by simp, fun h => o2 (by simp at h; simp [h]), fun d hd => o3 d (by simp at hd; simp [hd]), by simp⟩
    · exact hok e (.tail _ he)
theorem dat_push {led : List (Addr × Obj)} {us : List Value} {ds : List Dat} {D : Addr} {cs : List Nat} {b : Bool} {t : Tok} (h : DatAll led us ds) (hm : (D, tup2 (.str ⟨cs.toArray⟩ t) (.bool b)) ∈ led) : DatAll led (us ++ [.ref D]) (ds ++ [dT (cs, b)]) :=
  h.append (.one (.tuple (vs := [_, _]) hm (.cons (.str _ _) (.cons (.bool _) .nil))))
theorem sub_led {α : Type} {D1 a1 a2 a3 : α} {tl : List α} : ∀ p ∈ D1 :: tl, p ∈ [D1] ++ ([a1, a2, a3] ++ tl) := by
  intro p hp
  rcases List.mem_cons.mp hp with h | h <;> simp [h]
theorem sub_nw1 {α : Type} {Z A B C T D G W D1 : α} {add nw r : List α} : ∀ p ∈ nw, p ∈ Z :: A :: B :: C :: T :: D :: G :: W :: D1 :: (add ++ (nw ++ r)) := by
  intro p hp
  simp [hp]
theorem sub_end0 {α : Type} {D T D1 : α} {tl own : List α} : ∀ p ∈ [T] ++ ([D1] ++ ([] ++ tl)), p ∈ D :: T :: D1 :: (tl ++ own) := by
  intro p hp
  simp only [List.nil_append, List.cons_append, List.mem_cons] at hp
  rcases hp with h | h | h <;> simp [h]
theorem own_end0 {α : Type} {D T D1 : α} {tl own : List α} : ∀ p ∈ own, p ∈ D :: T :: D1 :: (tl ++ own) := by
  intro p hp
  simp [hp]
theorem sub_end3 {α : Type} {a1 a2 a3 b1 b2 b3 b4 b5 T c1 c2 c3 D1 : α} {add nw tl own : List α} : ∀ p ∈ [T] ++ ([D1] ++ ([a1, a2, a3] ++ tl)), p ∈ a1 :: a2 :: a3 :: b1 :: b2 :: b3 :: b4 :: b5 :: T :: c1 :: c2 :: c3 :: D1 :: (add ++ (nw ++ (tl ++ own))) := by
  intro p hp
  simp only [List.nil_append, List.cons_append, List.mem_cons] at hp
  rcases hp with h | h | h | h | h | h <;> simp [h]
theorem own_end3 {α : Type} {a1 a2 a3 b1 b2 b3 b4 b5 T c1 c2 c3 D1 : α} {add nw tl own : List α} : ∀ p ∈ own, p ∈ a1 :: a2 :: a3 :: b1 :: b2 :: b3 :: b4 :: b5 :: T :: c1 :: c2 :: c3 :: D1 :: (add ++ (nw ++ (tl ++ own))) := by
  intro p hp
  simp [hp]
theorem adr_end3 {T D1 A1 A2 A3 : Addr} {o1 o2 o3 : Obj} (h1 : T < A1 ∧ D1 < A1) (h2 : T < A2 ∧ D1 < A2) (h3 : T < A3 ∧ D1 < A3) : ∀ q ∈ [(A1, o1), (A2, o2), (A3, o3)], ∀ b ∈ [T, D1], b ≠ q.1 := by
  intro q hq b hb
  simp only [List.mem_cons, List.not_mem_nil, or_false] at hq hb
  rcases hq with rfl | rfl | rfl <;> rcases hb with rfl | rfl
  · exact Nat.ne_of_lt h1.1
  · exact Nat.ne_of_lt h1.2
  · exact Nat.ne_of_lt h2.1
  · exact Nat.ne_of_lt h2.2
  · exact Nat.ne_of_lt h3.1
  · exact Nat.ne_of_lt h3.2
theorem off_end3 {A1 A2 A3 : Addr} {o1 o2 o3 : Obj} {add nw tl own : List (Addr × Obj)} (h1 : AllLt A1 (add ++ (nw ++ (tl ++ own)))) (h2 : AllLt A2 (add ++ (nw ++ (tl ++ own)))) (h3 : AllLt A3 (add ++ (nw ++ (tl ++ own)))) :
    ∀ q ∈ [(A1, o1), (A2, o2), (A3, o3)], ∀ p ∈ own, p.1 ≠ q.1 := by
  intro q hq p hp
  have hm : p ∈ add ++ (nw ++ (tl ++ own)) := by simp [hp]
  simp only [List.mem_cons, List.not_mem_nil, or_false] at hq
  rcases hq with rfl | rfl | rfl
  · exact Nat.ne_of_lt (allLt_out h1 p hm)
  · exact Nat.ne_of_lt (allLt_out h2 p hm)
  · exact Nat.ne_of_lt (allLt_out h3 p hm)
theorem dat_lastT {news : List (Addr × Obj)} {e : List Nat × Bool} : ∀ {es : List Dat} {vs : List Value}, DatAll news vs (es ++ [dT e]) → ∃ us D n t, vs = us ++ [Value.ref D] ∧ DatAll news us es ∧ (D, ({ cls := .type "tuple", data := .seq #[Value.str ⟨e.1.toArray⟩ t, Value.bool e.2] n } : Obj)) ∈ news
  | [], _, h => by
    cases h with
    | cons h r =>
      cases r
      cases h with
      | tuple hm hd =>
        cases hd with
        | cons h1 r1 =>
          cases r1 with
          | cons h2 r2 =>
            cases r2
            cases h1
            cases h2
            exact ⟨[], _, _, _, rfl, .nil, hm⟩
  | d :: es, _, h => by
    cases h with
    | cons h r =>
      obtain ⟨us, D, n, t, rfl, hu, hm⟩ := dat_lastT r
      exact ⟨_ :: us, D, n, t, rfl, .cons h hu, hm⟩
set_option maxRecDepth 100000 in
set_option maxHeartbeats 8000000 in
theorem walked : PySem.Challenge.rw_dm0123_05.Holds := Mine.hd (by
  k_go0
  all_goals try k_fold
  k_with_none
  walk_at "mycall"
  rename Fr _ _ _ _ => F₁
  rename News _ _ _ _ => N₁
  rename IntsAre _ (List.take 48 _) => hI
  refine word_spec _ _ _ _ _ _ _ _ _ _ _ _ _ _ _ _ _ _ _ _ _ _ _ _ (by assumption) F₁ (by assumption) N₁ (by assumption) rfl hI ?_ ?_ ?_ ?_
  · rw [List.length_take]; omega
  · decide
  · decide
  intro x tx h₂ tk₂ hx hx0 hx49 F₂ N₂
  dsimp only
  walk_at "myfor"
  rename Fr _ _ _ _ => F₃
  rename News _ _ _ _ => N₃
  with_unfolding_all refine For_invVF F₃ rfl rfl ?_
  walk_at "myiter"
  rename IsRange _ _ _ _ _ _ _ _ => hR
  rename Fr _ _ _ _ => F₄
  rename News _ _ _ _ => N₄
  rename (_ < _ ∧ _ < _ ∧ _ < _) => la
  rename (_ < _ ∧ _ < _) => lb
  refine kd_range (σ := LwS) (n := 3 * x.length + 1) (fun z => [(_, listOf z.vs.toArray z.n)]) [(_, tup2 (.str x tx) (.bool false))] (fun z => [(Str.ofString "out", .str ⟨z.o.toArray⟩ z.to)])
    (fun led z => DatAll led z.vs (z.td.reverse.map dT)) [Str.ofString "text", Str.ofString "whole", Str.ofString "grown", Str.ofString "words", Str.ofString "pairs", Str.ofString "left", Str.ofString "k", Str.ofString "sign", Str.ofString "behind", Str.ofString "due"]
    (LwP x.cps.toList) [_, _] ⟨[], [(x.cps.toList, false)], ?to, [.ref _], 0⟩ rfl hR ?ka ?kb F₄ N₄ sub_start (fun _ => rfl) ?kd ?ke ?kf ?kg ?kh
  case ka => exact small_one (by omega) (by omega) (by omega) (by omega)
  case kb => rw [rangeSize_nat]; omega
  case kd => exact .one (.tuple (vs := [_, _]) (.head _) (.cons (.str _ _) (.cons (.bool _) .nil)))
  case ke => kst_all
  case kf =>
    refine ⟨by simp [valT], by simp [costT], ?_⟩
    intro e he
    rw [List.mem_singleton.mp he]
    refine ⟨hx.1, hx.2.1, hx.2.2, ?_⟩
    show x.cps.toList.length ≤ 49
    rw [Array.length_toList]; exact hx49
  case kg =>
    rintro ⟨o, td, to, vs, n⟩ tl pre k t u h tk own hk1 hk2 hsep hoffA hD ⟨hout, hcost, hok⟩ F₅ N₅
    dsimp only [kstB] at hD hout hcost hok F₅ N₅ hsep hoffA
    simp only [List.cons_append, List.nil_append] at N₅ hD
    try k_fold
    have hoffR := fun p hp => hoffA p hp _ (.head _)
    obtain ⟨⟨cs, b⟩, td', rfl⟩ : ∃ e td', td = e :: td' := by
      cases td with
      | nil => exfalso; simp at hcost; have e : x.cps.size = x.length := rfl; omega
      | cons e td' => exact ⟨e, td', rfl⟩
    rw [List.reverse_cons, List.map_append] at hD
    obtain ⟨us, D, nD, tD, rfl, hD', hmD⟩ := dat_lastT hD
    dsimp only at hmD
    have hDT := ne_led hoffR hmD (Nat.ne_of_lt lb.1)
    replace N₅ := news_add N₅ (mem_led hmD)
    have exl : x.cps.toList.length = x.length := Array.length_toList
    have hul : us.length ≤ 1000 := by
      have e1 := hD'.length
      rw [List.length_map, List.length_reverse] at e1
      have e2 := sum_cost td'
      have e3 := hcost
      rw [List.map_cons, List.sum_cons] at e3
      omega
    have hol : Str.length ⟨o.toArray⟩ ≤ 1000 := by
      have e1 := congrArg List.length hout
      rw [List.length_append, stOf_len] at e1
      show o.toArray.size ≤ 1000
      rw [List.size_toArray]
      omega
    obtain ⟨okn, ok58, okb, okl⟩ := hok _ (.head _)
    dsimp only at okn ok58 okb okl
    have hcl : Str.length ⟨cs.toArray⟩ ≤ 49 := by
      show cs.toArray.size ≤ 49
      rw [List.size_toArray]; exact okl
    cases b with
    | true =>
      walk_at "mysteps"
      rename Fr _ _ _ _ => F₆
      rename News _ _ _ _ => N₆
      rw [app_list] at F₆
      refine kd_end ⟨o ++ cs, td', ?pa, us, n + 1⟩ [] hsep F₆ N₆ sub_end0 own_end0 rfl (fun _ h => nomatch h) (fun _ h => nomatch h) ?pb ?pc hD' (lw_true hout hcost hok)
      case pb => kst_all
      case pc => kst_same
    | false =>
      cases cs with
      | nil =>
        walk_at "mysteps"
        rename Fr _ _ _ _ => F₆
        rename News _ _ _ _ => N₆
        refine kd_end ⟨o, td', to, us, n + 1⟩ [] hsep F₆ N₆ sub_end0 own_end0 rfl (fun _ h => nomatch h) (fun _ h => nomatch h) ?pd ?pe hD' (lw_nil hout hcost hok)
        case pd => kst_all
        case pe => kst_same
      | cons c₀ cs' =>
        have hne : ((⟨(c₀ :: cs').toArray⟩ : Str) != Str.ofString "") = true := by rw [bne, cons_ne]; rfl
        walk_at "mycall"
        rename Fr _ _ _ _ => F₆
        rename News _ _ _ _ => N₆
        rename List.Perm _ _ => hP₆
        rename List.Pairwise _ _ => hO₆
        rename (Str.length _ = Str.length _) => hJ₆
        rename (_ < _ ∧ _ < _ ∧ _ < _ ∧ _ < _ ∧ _ < _ ∧ _ < _ ∧ AllLt _ _) => l6
        rename (_ < _ ∧ _ < _ ∧ _ < _ ∧ _ < _ ∧ _ < _ ∧ AllLt _ _) => l5
        rename (_ < _ ∧ _ < _ ∧ _ < _ ∧ _ < _ ∧ AllLt _ _) => l4
        rename (_ < _ ∧ _ < _ ∧ _ < _ ∧ AllLt _ _) => l3
        obtain ⟨kk, c, hkc, hkt, hkf, hA, hB, hsplit⟩ := table_law2 okn ok58 (by simp) hP₆ hO₆
        replace N₆ := kst_newsOf N₆ sub_call
        refine shorts_spec _ _ _ _ _ _ _ _ _ _ _ _ _ _ _ _ _ _ _ _ _ _ _ _ _ _ _ _ _ _ _ _ _ kk c (by assumption) F₆ (by assumption) N₆ (by assumption) rfl (off_call l4.1 l3.2.1 l3.2.2.1 l3.2.2.2) (.head _) ?ma ?mb (table_in ok58 hP₆) hkc hkt hkf ?mc ?md ?me
        case ma =>
          rw [Str.length_append, hJ₆, colon_str]
          have e1 : Str.length ⟨#[58]⟩ = 1 := rfl
          omega
        case mb => omega
        case mc => decide
        case md => decide
        case me =>
          intro r vs₇ n₇ W₇ nw h₇ tk₇ F₇ N₇ l7 hoff₇ hfr₇ hL₇ hD₇
          dsimp only
          have hkl' : kk < (c₀ :: cs').length := (List.getElem?_eq_some_iff.mp hkc).1
          have hvl : vs₇.length = kk + 1 := by
            have e1 := hD₇.length
            rw [List.length_append, aheadD, List.length_map, List.length_take, List.length_singleton] at e1
            have e2 : (⟨(c₀ :: cs').toArray⟩ : Str).cps.toList.length = (c₀ :: cs').length := rfl
            rw [e2] at e1
            omega
          have hkl : kk ≤ 1000 := by omega
          walk_at "mysign"
          rename Fr _ _ _ _ => F₈
          rw [Int.add_sub_cancel] at F₈
          walk_at "mydue"
          rename Fr _ _ _ _ => F₉
          rw [slice_one hkc, slice_up hkc] at F₉
          rename News _ _ _ _ => N₉
          replace N₉ := kst_newsOf N₉ sub_due
          walk_at "mysteps"
          rename Fr _ _ _ _ => F₁₀
          rename News _ _ _ _ => N₁₀
          rw [slice_lo hkc]
          refine ⟨_, _, _, rfl, rfl, F₁₀, N₁₀, ?na, ?nb⟩
          case na =>
            show ((c₀ :: cs').take kk).toArray.size ≤ sizeLine
            rw [List.size_toArray, List.length_take, sizeLine_eq]
            omega
          case nb =>
            rintro s₂ ⟨g, rfl⟩
            refine compRest_ind (CompInv _ ((c₀ :: cs').take kk)) compInv_nil ?nc ?nd
            case nc =>
              rintro i ys news hi ⟨add, rfl, hDa, hfa⟩ v I oI C oC D₁ m₂ h₁ tk₁ E' ⟨d, td₁, hd, rfl⟩ hns hm₂ F₁₁ N₁₁ hoff3 hne3
              try k_fold
              walk_at "mysteps"
              rename Fr _ _ _ _ => F₁₂
              rename News _ _ _ _ => N₁₂
              rename (I < _ ∧ C < _ ∧ D₁ < _ ∧ AllLt _ _) => l1
              exact comp_end F₁₂ N₁₂ hoff3 l1 hDa hfa hd
            case nd =>
              rintro ys news ⟨add, rfl, hDa, hfa⟩
              unfold LCg.FinE
              intro D₁ h₁ tk₁ F₁₁ N₁₁ hoff1
              replace N₁₁ := kst_newsOf N₁₁ sub_fin
              have hDa' : DatAll add ys (aheadD (((c₀ :: cs').take kk))) := by
                have e : List.take (⟨((c₀ :: cs').take kk).toArray⟩ : Str).cps.size ((c₀ :: cs').take kk) = (c₀ :: cs').take kk := by
                  show List.take (((c₀ :: cs').take kk).toArray.size) _ = _
                  rw [List.size_toArray, List.take_length]
                rw [e] at hDa
                exact hDa
              dsimp only
              cases hbe : (c₀ :: cs').drop (kk + 1) with
              | nil =>
                have hyl : ys.length ≤ 1000 := by
                  have e1 := hDa'.length
                  rw [aheadD, List.length_map, List.length_take] at e1
                  omega
                have hTall := off_fin N₁₁ (off1_out hoff1 _ (List.mem_append.mpr (.inr (.head _)))) l3.2.1 l4.2.2.1 lb.1 (fun p hp => (hfa p hp).1) (fun p hp => hfr₇ p hp _ (.tail _ (.head _))) hoffR
                rw [hbe] at F₁₁
                rcases hL₇ with ⟨hL, _⟩ | ⟨_, nW, tW, uW, hWm⟩
                case inl => exact absurd hbe hL
                walk_at "myne"
                rename News _ _ _ _ => N₁₂
                refine ne_same N₁₂ (.tail _ (.tail _ (.tail _ (.tail _ (.tail _ (.head _)))))) (.head _) hD₇ sub_nw (lastD_in (tl' := _ :: add) hDa' (fun p hp => .tail _ hp) (.head _) (by rw [show List.drop (kk + 1) (⟨(c₀ :: cs').toArray⟩ : Str).cps.toList = [] from hbe]; simp)) sub_new (pairs_ok okb hkc) (show 7 + 64 < 9900 by decide) ?_
                (try dsimp only)
                walk_at "myne"
                rename News _ _ _ _ => N₁₃
                refine ne_same N₁₃ (sub_nw1 _ hWm) (.head _) two_in sub_none two_in sub_none (two_ok okb) (show 7 + 64 < 9900 by decide) ?_
                (try dsimp only)
                walk_at "myne"
                rename News _ _ _ _ => N₁₄
                refine ne_same N₁₄ (by k_mem) (.head _) three_in sub_none three_in sub_none (three_ok okb) (show 7 + 64 < 9900 by decide) ?_
                (try dsimp only)
                walk_at "mysteps"
                rename Fr _ _ _ _ => F₁₅
                rename News _ _ _ _ => N₁₅
                rename (_ < _ ∧ _ < _ ∧ _ < _ ∧ _ < _ ∧ _ < _ ∧ _ < _ ∧ _ < _ ∧ _ < _ ∧ _ < _ ∧ _ < _ ∧ _ < _ ∧ _ < _ ∧ AllLt _ _) => m3
                rename (_ < _ ∧ _ < _ ∧ _ < _ ∧ _ < _ ∧ _ < _ ∧ _ < _ ∧ _ < _ ∧ _ < _ ∧ _ < _ ∧ _ < _ ∧ _ < _ ∧ AllLt _ _) => m2
                rename (_ < _ ∧ _ < _ ∧ _ < _ ∧ _ < _ ∧ _ < _ ∧ _ < _ ∧ _ < _ ∧ _ < _ ∧ _ < _ ∧ _ < _ ∧ AllLt _ _) => m1
                rw [slice_lo hkc] at N₁₅
                simp only [List.push_toArray] at N₁₅
                refine kd_end ⟨o, ((c₀ :: cs').take kk, false) :: ([], false) :: ([c], true) :: td', to, us ++ [.ref _] ++ [.ref _] ++ [.ref _], n + 1 + 1 + 1 + 1⟩ [(_, tup2 (.str ⟨((c₀ :: cs').take kk).toArray⟩ _) (.bool false)), (_, tup2 (.str ⟨([] : List Nat).toArray⟩ _) (.bool false)), (_, tup2 (.str ⟨[c].toArray⟩ _) (.bool true))] hsep F₁₅ N₁₅ sub_end3 own_end3 rfl
                  (adr_end3 ⟨m3.2.2.2.2.2.2.2.1, m3.2.2.2.2.2.2.2.2.2.2.2.1⟩ ⟨m2.2.2.2.2.2.2.1, m2.2.2.2.2.2.2.2.2.2.2.1⟩ ⟨m1.2.2.2.2.2.1, m1.2.2.2.2.2.2.2.2.2.1⟩)
                  (off_end3 m3.2.2.2.2.2.2.2.2.2.2.2.2 m2.2.2.2.2.2.2.2.2.2.2.2 m1.2.2.2.2.2.2.2.2.2.2) ?qpf ?qpg ?qph (lw_cons hout hcost hok hA (by rw [hbe] at hB; exact hB) (by rw [hbe] at hsplit; exact hsplit))
                case qpf => kst_all
                case qpg => kst_same
                case qph =>
                  dsimp only
                  rw [List.reverse_cons, List.map_append, List.reverse_cons, List.map_append, List.reverse_cons, List.map_append]
                  exact dat_push (dat_push (dat_push (hD'.mono sub_led) (.tail _ (.tail _ (.tail _ (.head _))))) (.tail _ (.tail _ (.head _)))) (.tail _ (.head _))
              | cons e es =>
                have hne2 := cons_ne e es
                have hbl : Str.length ⟨(e :: es).toArray⟩ ≤ 1000 := by
                  have e1 := congrArg List.length hbe
                  rw [List.length_drop] at e1
                  show (e :: es).toArray.size ≤ 1000
                  rw [List.size_toArray]
                  omega
                have hb1 : 1 ≤ Str.length ⟨(e :: es).toArray⟩ := by
                  show 1 ≤ (e :: es).toArray.size
                  simp
                have hyl : ys.length ≤ 1000 := by
                  have e1 := hDa'.length
                  rw [aheadD, List.length_map, List.length_take] at e1
                  omega
                have hTall := off_fin N₁₁ (off1_out hoff1 _ (List.mem_append.mpr (.inr (.head _)))) l3.2.1 l4.2.2.1 lb.1 (fun p hp => (hfa p hp).1) (fun p hp => hfr₇ p hp _ (.tail _ (.head _))) hoffR
                rw [hbe] at F₁₁
                rcases hL₇ with ⟨_, rfl⟩ | ⟨hL, _⟩
                case inr => exact absurd (hL.symm.trans hbe) (by simp)
                walk_at "myne"
                rename News _ _ _ _ => N₁₂
                refine ne_same N₁₂ (.tail _ (.tail _ (.tail _ (.tail _ (.tail _ (.head _)))))) (.head _) hD₇ sub_nw (lastD_in (tl' := _ :: add) hDa' (fun p hp => .tail _ hp) (.head _) (by rw [show List.drop (kk + 1) (⟨(c₀ :: cs').toArray⟩ : Str).cps.toList = e :: es from hbe]; simp)) sub_new (pairs_ok okb hkc) (show 7 + 64 < 9900 by decide) ?_
                (try dsimp only)
                walk_at "myne"
                rename News _ _ _ _ => N₁₃
                refine ne_same N₁₃ (by k_mem) (.head _) three_in sub_none three_in sub_none (three_ok okb) (show 7 + 64 < 9900 by decide) ?_
                (try dsimp only)
                walk_at "myne"
                rename News _ _ _ _ => N₁₄
                refine ne_same N₁₄ (by k_mem) (.head _) three_in sub_none three_in sub_none (three_ok okb) (show 7 + 64 < 9900 by decide) ?_
                (try dsimp only)
                walk_at "mysteps"
                rename Fr _ _ _ _ => F₁₅
                rename News _ _ _ _ => N₁₅
                rename (_ < _ ∧ _ < _ ∧ _ < _ ∧ _ < _ ∧ _ < _ ∧ _ < _ ∧ _ < _ ∧ _ < _ ∧ _ < _ ∧ _ < _ ∧ _ < _ ∧ _ < _ ∧ AllLt _ _) => m3
                rename (_ < _ ∧ _ < _ ∧ _ < _ ∧ _ < _ ∧ _ < _ ∧ _ < _ ∧ _ < _ ∧ _ < _ ∧ _ < _ ∧ _ < _ ∧ _ < _ ∧ AllLt _ _) => m2
                rename (_ < _ ∧ _ < _ ∧ _ < _ ∧ _ < _ ∧ _ < _ ∧ _ < _ ∧ _ < _ ∧ _ < _ ∧ _ < _ ∧ _ < _ ∧ AllLt _ _) => m1
                rw [slice_lo hkc] at N₁₅
                simp only [List.push_toArray] at N₁₅
                refine kd_end ⟨o, ((c₀ :: cs').take kk, false) :: (e :: es, false) :: ([c], true) :: td', to, us ++ [.ref _] ++ [.ref _] ++ [.ref _], n + 1 + 1 + 1 + 1⟩ [(_, tup2 (.str ⟨((c₀ :: cs').take kk).toArray⟩ _) (.bool false)), (_, tup2 (.str ⟨(e :: es).toArray⟩ _) (.bool false)), (_, tup2 (.str ⟨[c].toArray⟩ _) (.bool true))] hsep F₁₅ N₁₅ sub_end3 own_end3 rfl
                  (adr_end3 ⟨m3.2.2.2.2.2.2.2.1, m3.2.2.2.2.2.2.2.2.2.2.2.1⟩ ⟨m2.2.2.2.2.2.2.1, m2.2.2.2.2.2.2.2.2.2.2.1⟩ ⟨m1.2.2.2.2.2.1, m1.2.2.2.2.2.2.2.2.2.1⟩)
                  (off_end3 m3.2.2.2.2.2.2.2.2.2.2.2.2 m2.2.2.2.2.2.2.2.2.2.2.2 m1.2.2.2.2.2.2.2.2.2.2) ?pf ?pg ?ph (lw_cons hout hcost hok hA (by rw [hbe] at hB; exact hB) (by rw [hbe] at hsplit; exact hsplit))
                case pf => kst_all
                case pg => kst_same
                case ph =>
                  dsimp only
                  rw [List.reverse_cons, List.map_append, List.reverse_cons, List.map_append, List.reverse_cons, List.map_append]
                  exact dat_push (dat_push (dat_push (hD'.mono sub_led) (.tail _ (.tail _ (.tail _ (.head _))))) (.tail _ (.tail _ (.head _)))) (.tail _ (.head _))
  case kh =>
    rintro ⟨o, td, to, vs, n⟩ tl u h tk hoffA hD ⟨hout, hcost, hok⟩ F₅ N₅
    dsimp only [kstB] at hD hout hcost hok F₅ N₅
    have exl : x.cps.toList.length = x.length := Array.length_toList
    have htd : td = [] := by
      have e1 := sum_cost td
      rw [rangeKs_length] at hcost
      exact List.eq_nil_of_length_eq_zero (by omega)
    subst htd
    have ho : o = stOf x.cps.toList := by simpa using hout
    try k_fold
    walk_at "mycall"
    rename Fr _ _ _ _ => F₆
    rename News _ _ _ _ => N₆
    refine stack_spec _ _ _ _ _ _ _ _ _ _ _ _ _ _ _ _ _ _ _ _ _ _ x _ (by assumption) F₆ (by assumption) N₆ (by assumption) rfl ?ra hx.2.2 ?rb ?rc ?rd
    case ra => omega
    case rb => decide
    case rc => decide
    case rd =>
      intro t₈ h₈ tk₈ F₈ N₈
      rw [← ho]
      dsimp only
      walk_at "mysteps")
end
end Mine

theorem PySem.Challenge.cw_dm0123_05_holds : PySem.Challenge.rw_dm0123_05.Holds :=
  Mine.walked
