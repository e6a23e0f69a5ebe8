import PyProof.Rows.All
import Wide.All
import OpenK.AllK
import Wide.FinOn
import PySem.Challenge.RW_mr0016_01
open PySem PySem.W PyProof.Rows
set_option Elab.async false
set_option maxRecDepth 100000
set_option maxHeartbeats 8000000
namespace Mine
open_top hd for PySem.Challenge.rw_mr0016_01
end Mine
namespace Mine
noncomputable abbrev ls : List Str := looseW hd.view_39 [Str.ofString "b2a_base64", Str.ofString "b64encode"]
/-- a text by its signs' numbers -/
abbrev S (l : List Nat) : Str := ⟨l.toArray⟩
theorem S_of (x : Str) : x = S x.cps.toList := by cases x; simp [S]
theorem S_inj {a b : List Nat} (h : S a = S b) : a = b := by simpa [S] using h
theorem S_len (l : List Nat) : (S l).length = l.length := by simp [S, Str.length]
theorem slice_take1 (l : List Nat) : Txt.slice (S l) none (some 1) = S (l.take 1) := by
  cases l with
  | nil => rfl
  | cons c r =>
    have h := beq_iff_eq.mp (slice_closes_toL (x := S (c :: r)) (j := 1) (by decide) (by rw [S_len]; simp only [List.length_cons]; omega))
    rw [h]; simp [S]
theorem slice_drop1 (l : List Nat) : Txt.slice (S l) (some 1) none = S (l.drop 1) := by
  cases l with
  | nil => rfl
  | cons c r =>
    have h := slice_from_eq (x := S (c :: r)) (i := 1) (b := ((c :: r).length : Int)) (by decide) (by rw [S_len]; simp only [List.length_cons]; omega) (by rw [S_len])
    rw [h]; simp only [S, List.drop_succ_cons, List.drop_zero]
    congr 2
    have e : ((((c :: r).length : Nat) : Int) - 1).toNat = r.length := by simp only [List.length_cons]; omega
    rw [e]; simp
def wh (c : Nat) : Bool := c == 32 || c == 9
def bareL (l : List Nat) : List Nat := l.dropWhile wh
def bare (x : Str) : Str := S (bareL x.cps.toList)
theorem bareL_le (l : List Nat) : (bareL l).length ≤ l.length := by
  unfold bareL; exact List.IsSuffix.length_le (List.dropWhile_suffix _)
theorem bare_S (l : List Nat) : bare (S l) = S (bareL l) := by simp [bare, S]
theorem bare_le (x : Str) : (bare x).length ≤ x.length := by
  rw [S_of x, bare_S, S_len, S_len]; exact bareL_le _
theorem sp_eq : Str.ofString " " = S [32] := by decide +kernel
theorem tab_eq : Str.ofString "\t" = S [9] := by decide +kernel
theorem nl_eq : Str.ofString "\n" = S [10] := by decide +kernel
theorem em_eq : Str.ofString "" = S [] := by decide +kernel
theorem S_beq (a b : List Nat) : (S a == S b) = decide (a = b) := by
  by_cases h : a = b
  · subst h; simp
  · have : S a ≠ S b := fun q => h (S_inj q)
    simp [h]
theorem bare_test (y : Str) : ([Str.ofString " ", Str.ofString "\t"].any fun x => x == Txt.slice y none (some 1)) = (match y.cps.toList with | [] => false | c :: _ => wh c) := by
  rw [S_of y, slice_take1, sp_eq, tab_eq]
  generalize y.cps.toList = l
  cases l with
  | nil => rfl
  | cons c r =>
    simp only [List.any_cons, List.any_nil, Bool.or_false, S_beq, List.take_succ_cons, List.take_zero, List.cons.injEq, and_true, wh]
    rw [Bool.eq_iff_iff]
    simp only [Bool.or_eq_true, decide_eq_true_eq, beq_iff_eq]
    omega
theorem bare_go {y : Str} (h : ([Str.ofString " ", Str.ofString "\t"].any fun x => x == Txt.slice y none (some 1)) = true) : bare (Txt.slice y (some 1) none) = bare y ∧ (Txt.slice y (some 1) none).length < y.length := by
  rw [bare_test] at h
  rw [S_of y] at h ⊢
  generalize y.cps.toList = l at h ⊢
  cases l with
  | nil => cases h
  | cons c r =>
    rw [slice_drop1, bare_S, bare_S, S_len, S_len]
    have h' : wh c = true := by simpa [S] using h
    constructor
    · simp [bareL, h']
    · simp
theorem bare_stop {y : Str} (h : ([Str.ofString " ", Str.ofString "\t"].any fun x => x == Txt.slice y none (some 1)) = false) : bare y = y := by
  rw [bare_test] at h
  rw [S_of y] at h ⊢
  generalize y.cps.toList = l at h ⊢
  rw [bare_S]
  cases l with
  | nil => rfl
  | cons c r =>
    have h' : wh c = false := by simpa [S] using h
    simp [bareL, h']
theorem frNamed {h₀ h : Heap} {L : Addr} {m : Str → Option Value} {x : Str} {v : Value} (F : Fr h₀ L h m) (hm : m x = some v) : Fr h₀ L h (fun z => if z = x then some v else m z) := by
  have e : (fun z => if z = x then some v else m z) = m := by
    funext z
    by_cases h : z = x
    · subst h; simp [hm]
    · simp [h]
  rw [e]; exact F
theorem newsSub {h₀ h : Heap} {L : Addr} {news news' : List (Addr × Obj)} (N : News h₀ L h news') (hs : ∀ p ∈ news, p ∈ news') : News h₀ L h news := fun p hp => N p (hs p hp)
/-- a def's contract: called anywhere under the top, with a ledger that meets `pre`, it comes back with `r`, its new objects `tl` and all else as it was -/
def Con (w : World) (f : Addr) (k : Nat) (vs : List Value) (pre : List (Addr × Obj) → Prop) (Ret : Value → List (Addr × Obj) → Prop) : Prop :=
  ∀ (mean : ExcName → Option Value) (mg mb : Str → Option Value) (dp un : Nat) (gd : Option (List Code)) (cn : Str) (cs : Scope) (a : Addr) (ccd : Value) (cl : List (Str × Addr)) (outer : List Env) (A₀ : Around) (base h₀ : Heap) (L : Addr) (m : Str → Option Value) (news : List (Addr × Obj)) (s : Shared) (Q E : Value → Shared → Prop),
    Below A₀ base outer h₀ → Fr h₀ L s.heap m → (hd.heap_39 w.params).In h₀ → News h₀ L s.heap news → Top hd.view_39 ls mean mg mb h₀ → cs.kind = .function → dp + k < recursionLimit → un + 8 * k < cLine → pre news →
    (∀ r tl h' tk', Fr h₀ L h' m → News h₀ L h' (tl ++ news) → Ret r tl → Q r { s with heap := h', toks := tk' }) →
    wpAny (model PySem.Challenge.rw_mr0016_01.row.prog w) (ktrTop dp un gd cn cs L a ccd cl outer) (call (.ref f) vs) Q E s
theorem con_use {w : World} {f : Addr} {k : Nat} {vs : List Value} {pre : List (Addr × Obj) → Prop} {Ret : Value → List (Addr × Obj) → Prop}
    {mean : ExcName → Option Value} {mg mb : Str → Option Value} {dp un : Nat} {gd : Option (List Code)} {cn : Str} {cs : Scope} {a : Addr} {ccd : Value} {cl : List (Str × Addr)} {outer : List Env} {A₀ : Around} {base h₀ : Heap} {L : Addr} {m : Str → Option Value} {news : List (Addr × Obj)} {s : Shared} {Q E : Value → Shared → Prop}
    (C : Con w f k vs pre Ret) (B : Below A₀ base outer h₀) (F : Fr h₀ L s.heap m) (X : (hd.heap_39 w.params).In h₀) (N : News h₀ L s.heap news) (T : Top hd.view_39 ls mean mg mb h₀) (hk : cs.kind = .function) (h1 : dp + k < recursionLimit) (h2 : un + 8 * k < cLine) (hp : pre news)
    (ret : ∀ r tl h' tk', Fr h₀ L h' m → News h₀ L h' (tl ++ news) → Ret r tl → Q r { s with heap := h', toks := tk' }) :
    wpAny (model PySem.Challenge.rw_mr0016_01.row.prog w) (ktrTop dp un gd cn cs L a ccd cl outer) (call (.ref f) vs) Q E s :=
  C _ _ _ _ _ _ _ _ _ _ _ _ _ _ _ _ _ _ _ _ _ B F X N T hk h1 h2 hp ret
def ConK (w : World) (f : Addr) (k : Nat) (vs : List Value) (kw : List (Str × Value)) (pre : List (Addr × Obj) → Prop) (Ret : Value → List (Addr × Obj) → Prop) : Prop :=
  ∀ (mean : ExcName → Option Value) (mg mb : Str → Option Value) (dp un : Nat) (gd : Option (List Code)) (cn : Str) (cs : Scope) (a : Addr) (ccd : Value) (cl : List (Str × Addr)) (outer : List Env) (A₀ : Around) (base h₀ : Heap) (L : Addr) (m : Str → Option Value) (news : List (Addr × Obj)) (s : Shared) (Q E : Value → Shared → Prop),
    Below A₀ base outer h₀ → Fr h₀ L s.heap m → (hd.heap_39 w.params).In h₀ → News h₀ L s.heap news → Top hd.view_39 ls mean mg mb h₀ → cs.kind = .function → dp + k < recursionLimit → un + 8 * k < cLine → pre news →
    (∀ r tl h' tk', Fr h₀ L h' m → News h₀ L h' (tl ++ news) → Ret r tl → Q r { s with heap := h', toks := tk' }) →
    wpAny (model PySem.Challenge.rw_mr0016_01.row.prog w) (ktrTop dp un gd cn cs L a ccd cl outer) (call (.ref f) vs kw) Q E s
theorem conk_use {w : World} {f : Addr} {k : Nat} {vs : List Value} {kw : List (Str × Value)} {pre : List (Addr × Obj) → Prop} {Ret : Value → List (Addr × Obj) → Prop}
    {mean : ExcName → Option Value} {mg mb : Str → Option Value} {dp un : Nat} {gd : Option (List Code)} {cn : Str} {cs : Scope} {a : Addr} {ccd : Value} {cl : List (Str × Addr)} {outer : List Env} {A₀ : Around} {base h₀ : Heap} {L : Addr} {m : Str → Option Value} {news : List (Addr × Obj)} {s : Shared} {Q E : Value → Shared → Prop}
    (C : ConK w f k vs kw pre Ret) (B : Below A₀ base outer h₀) (F : Fr h₀ L s.heap m) (X : (hd.heap_39 w.params).In h₀) (N : News h₀ L s.heap news) (T : Top hd.view_39 ls mean mg mb h₀) (hk : cs.kind = .function) (h1 : dp + k < recursionLimit) (h2 : un + 8 * k < cLine) (hp : pre news)
    (ret : ∀ r tl h' tk', Fr h₀ L h' m → News h₀ L h' (tl ++ news) → Ret r tl → Q r { s with heap := h', toks := tk' }) :
    wpAny (model PySem.Challenge.rw_mr0016_01.row.prog w) (ktrTop dp un gd cn cs L a ccd cl outer) (call (.ref f) vs kw) Q E s :=
  C _ _ _ _ _ _ _ _ _ _ _ _ _ _ _ _ _ _ _ _ _ B F X N T hk h1 h2 hp ret
end Mine
namespace Mine
theorem con_bare (w : World) (x : Str) (t : Tok) (hx : x.length ≤ 16777216) : Con w 72 1 [.str x t] (fun _ => True) (fun r tl => tl = [] ∧ ∃ t', r = .str (bare x) t') := by
  w_top off
  unfold Con
  intro mean mg mb dp un gd cn cs a ccd cl outer A₀ base h₀ L m news s Q E B F X N T hk hdp hun hpre hret
  (revert X; k_fill; intro X)
  refine wpAny_call ?_
  k_dflt ktr_enter
  repeat' ((fail_if_success with_reducible show wpAny _ _ (exec (Stmt.While _ _ _ _) _) _ _ _); first | (k_unfold; (try dsimp only)) | (k_end; wrow_close) | walk1 | (dsimp only; walk1))
  rename Fr _ _ _ _ => F₁
  rename News _ _ _ _ => N₁
  refine While_inv2 (n₀ := x.length) (fun n m₁ news₁ => ∃ y ty, m₁ (Str.ofString "line") = some (.str y ty) ∧ news = news₁ ∧ n = y.length ∧ y.length ≤ 16777216 ∧ bare y = bare x) F₁ N₁ ⟨x, t, rfl, rfl, rfl, hx, rfl⟩ ?_
  rintro n m₁ _ h₁ tk₁ F₂ N₂ ⟨y, ty, hm, rfl, rfl, hy, hb⟩
  replace F₂ := frNamed F₂ hm
  clear hm
  clear F₁ N₁
  k_steps
  · refine ⟨_, _, _, news, _, rfl, by assumption, newsSub (by assumption) (fun p hp => List.mem_cons_of_mem _ hp), ?_, ⟨_, _, rfl, rfl, rfl, ?_, ?_⟩⟩
    · exact (bare_go (by assumption)).2
    · exact Nat.le_trans (Nat.le_of_lt (bare_go (by assumption)).2) hy
    · exact (bare_go (by assumption)).1.trans hb
  · refine hret _ [] _ _ (by assumption) (newsSub (by assumption) (fun p hp => List.mem_cons_of_mem _ hp)) ⟨rfl, ty, ?_⟩
    rw [← hb, bare_stop (by assumption)]
end Mine
namespace Mine
theorem sumLen_le {B : Nat} : ∀ {ys : List Str}, (∀ a ∈ ys, a.length ≤ B) → (ys.map (·.length)).sum ≤ ys.length * B
  | [], _ => by simp
  | a :: r, h => by
    have h1 := h a (.head _)
    have h2 := sumLen_le (ys := r) fun b hb => h b (.tail _ hb)
    simp only [List.map_cons, List.sum_cons, List.length_cons, Nat.add_mul, Nat.one_mul]
    omega
def docLines (x : Str) : List Str := Txt.split (Txt.strip x) (Str.ofString "\n")
def splitdocF (x : Str) : Str × Str :=
  match docLines x with
  | [] => (S [], S [])
  | [a] => (a, S [])
  | a :: b :: r => if (Txt.rstrip b).length = 0 then (a, Txt.join (Str.ofString "\n") r) else (S [], Txt.join (Str.ofString "\n") (a :: b :: r))
theorem strValues_drop2 (l : List (Str × Tok)) : slicePick (strValues l).toArray (some 2) none none = (strValues (l.drop 2)).toArray := by
  rw [kms_pick_eq]
  unfold kms_pick kms_lo kms_hi
  simp only [strValues, List.length_map, show ¬ ((2 : Int) < 0) by decide, if_false]
  congr 1
  rw [← List.map_drop, ← List.map_take]
  congr 1
  by_cases h : 2 ≤ l.length
  · rw [Nat.min_eq_left (by simpa using h)]
    show (List.drop 2 l).take (l.length - 2) = _
    rw [List.take_of_length_le (by simp)]
  · rw [Nat.min_eq_right (by simp; omega)]
    rw [List.drop_of_length_le (Nat.le_refl _), List.drop_of_length_le (by omega)]
    simp
theorem lines_one {x : Str} {l : List (Str × Tok)} {y : Str} (h : l.map (·.1) = Txt.split (Txt.strip x) (Str.ofString "\n")) (h1 : (l.length : Int) = 1) (hy : (l.map (·.1))[Int.toNat 0]? = some y) : splitdocF x = (y, S []) := by
  unfold splitdocF docLines
  rw [← h]
  match l, h1, hy with
  | [p], _, hy => simp at hy; simp [hy]
  | [], h1, _ => simp at h1
  | _ :: _ :: _, h1, _ => simp only [List.length_cons] at h1; omega
theorem lines_two {x : Str} {l : List (Str × Tok)} {y z : Str} (h : l.map (·.1) = Txt.split (Txt.strip x) (Str.ofString "\n")) (h1 : 2 ≤ (l.length : Int)) (hy : (l.map (·.1))[Int.toNat 1]? = some y) (h0 : ((Txt.rstrip y).length : Int) = 0)
    (hz : (l.map (·.1))[Int.toNat 0]? = some z) : splitdocF x = (z, Txt.join (Str.ofString "\n") ((l.drop 2).map (·.1))) := by
  unfold splitdocF docLines
  rw [← h]
  match l, h1, hy, hz with
  | [], h1, _, _ => simp at h1
  | [_], h1, _, _ => simp at h1
  | p :: q :: r, _, hy, hz =>
    simp at hy hz
    subst hy hz
    simp only [List.map_cons, List.drop_succ_cons, List.drop_zero]
    rw [if_pos (by omega)]
theorem lines_more {x : Str} {l : List (Str × Tok)} {y : Str} (h : l.map (·.1) = Txt.split (Txt.strip x) (Str.ofString "\n")) (h1 : 2 ≤ (l.length : Int)) (hy : (l.map (·.1))[Int.toNat 1]? = some y) (h0 : ((Txt.rstrip y).length : Int) ≠ 0) :
    splitdocF x = (S [], Txt.join (Str.ofString "\n") (l.map (·.1))) := by
  unfold splitdocF docLines
  rw [← h]
  match l, h1, hy with
  | [], h1, _ => simp at h1
  | [_], h1, _ => simp at h1
  | p :: q :: r, _, hy =>
    simp at hy
    subst hy
    simp only [List.map_cons]
    rw [if_neg (by omega)]
theorem joinOk_lines {l : List (Str × Tok)} {n : Nat} (hn : n ≤ 1000) (h : ∀ a ∈ l.map (·.1), a.length ≤ n) (hl : l.length ≤ 1002) : JoinOk (Str.ofString "\n") (l.map (·.1)) = true := by
  refine joinOk_of ?_
  have h1 := sumLen_le h
  have h2 : (Str.ofString "\n").length = 1 := by decide +kernel
  rw [h2]
  rw [List.length_map] at h1 ⊢
  have h3 : l.length * n ≤ 1002 * 1000 := Nat.mul_le_mul hl hn
  omega
theorem close_tup {x y z : Str} {s : Shared} {Q : Value → Shared → Prop} {h₀ h' : Heap} {L D : Addr} {m : Str → Option Value} {news all : List (Addr × Obj)} {ta tb : Tok} {tk : Nat}
    (hret : ∀ r tl h' tk', Fr h₀ L h' m → News h₀ L h' (tl ++ news) → (∃ D ta tb, r = .ref D ∧ tl = [(D, ({ cls := .type "tuple", data := .seq #[.str (splitdocF x).1 ta, .str (splitdocF x).2 tb] } : Obj))]) → Q r { s with heap := h', toks := tk' })
    (e : splitdocF x = (y, z)) (F : Fr h₀ L h' m) (N : News h₀ L h' all) (h1 : (D, ({ cls := .type "tuple", data := .seq #[.str y ta, .str z tb] } : Obj)) ∈ all) (h2 : ∀ p ∈ news, p ∈ all) : Q (.ref D) { s with heap := h', toks := tk } :=
  hret (.ref D) [(D, _)] h' tk F (fun p hp => by
    rcases List.mem_cons.mp hp with rfl | hp
    · exact N _ h1
    · exact N _ (h2 p hp)) ⟨D, ta, tb, rfl, by rw [e]⟩
theorem con_splitdoc (w : World) (x : Str) (t : Tok) (hx : x.length ≤ 1000) : Con w 28 1 [.str x t] (fun _ => True)
    (fun r tl => ∃ D ta tb, r = .ref D ∧ tl = [(D, ({ cls := .type "tuple", data := .seq #[.str (splitdocF x).1 ta, .str (splitdocF x).2 tb] } : Obj))]) := by
  w_top off
  unfold Con
  intro mean mg mb dp un gd cn cs a ccd cl outer A₀ base h₀ L m news s Q E B F X N T hk hdp hun hpre hret
  (revert X; k_fill; intro X)
  refine wpAny_call ?_
  k_dflt ktr_enter
  k_steps
  · exact close_tup hret (lines_one (by assumption) (by assumption) (by assumption)) (by assumption) (by assumption) (by kcf_m) (by kcf_all)
  · rename (List.map _ _)[_]? = some _ => hg
    rename ∀ (a : Str), a ∈ List.map _ _ → _ => hle
    rename (Txt.strip x).length ≤ _ => hst
    have hy := hle _ (List.mem_of_getElem? hg)
    refine SCL.rstrip (hsz := by rw [sizeLine_eq]; omega) ?_
    intro t9 k9 hl9
    k_steps
    · rename News _ _ _ _ => N9
      refine SC.join (News.isList N9 (.head _)) rfl (joinOk_lines (Nat.le_trans hst hx) hle (by omega)) ?_
      intro t8 k8
      k_steps
      exact close_tup hret (lines_more (by assumption) (by assumption) hg (by assumption)) (by assumption) (by assumption) (by kcf_m) (by kcf_all)
    · rename News _ _ _ _ => N9
      rw [strValues_drop2] at N9
      refine SC.join (News.isList N9 (.head _)) rfl (joinOk_lines (Nat.le_trans hst hx) (fun a ha => hle a ?_) (by rw [List.length_drop]; omega)) ?_
      · rw [List.map_drop] at ha; exact List.mem_of_mem_drop ha
      intro t8 k8
      k_steps
      exact close_tup hret (lines_two (by assumption) (by assumption) hg (by assumption) (by assumption)) (by assumption) (by assumption) (by kcf_m) (by kcf_all)
  · exfalso
    rename List.map _ _ = Txt.split _ _ => hsp
    have h9 := len_of_split hsp
    omega
end Mine
namespace Mine
section
variable {prog : Program} {w : World} {A : Around} {E : Value → Shared → Prop} {env : Env} {h₀ : Heap} {x : Str} {body : List Stmt} {Q : Flow → Shared → Prop}
/-- what a turn must leave: J at the next turn, the iterator as it was -/
def TurnEnd (h₀ : Heap) (L : Addr) (I : Addr) (oI : Obj) (J : (Str → Option Value) → List (Addr × Obj) → Prop) (s₁ s₂ : Shared) : Prop :=
  ∃ h' tk m' news', s₂ = { s₁ with heap := h', toks := tk } ∧ Fr h₀ L h' m' ∧ News h₀ L h' ((I, oI) :: news') ∧ (∀ p ∈ news', p.1 ≠ I) ∧ J m' news'
def TurnPost (h₀ : Heap) (L : Addr) (I : Addr) (oI : Obj) (J : (Str → Option Value) → List (Addr × Obj) → Prop) (s₁ : Shared) (Q : Flow → Shared → Prop) (f : Flow) (s₂ : Shared) : Prop :=
  match f with
  | .ret v => Q (.ret v) s₂
  | .brk => Q .next s₂
  | _ => TurnEnd h₀ L I oI J s₁ s₂
theorem TurnEnd.mk' {L I : Addr} {oI : Obj} {J : (Str → Option Value) → List (Addr × Obj) → Prop} {s₁ : Shared} {h' : Heap} {tk : Nat} {m' : Str → Option Value} {all : List (Addr × Obj)} (news' : List (Addr × Obj))
    (F : Fr h₀ L h' m') (N : News h₀ L h' all) (sub : ∀ p ∈ (I, oI) :: news', p ∈ all) (off : ∀ p ∈ news', p.1 ≠ I) (hj : J m' news') : TurnEnd h₀ L I oI J s₁ { s₁ with heap := h', toks := tk } :=
  ⟨h', tk, m', news', rfl, F, fun p hp => N p (sub p hp), off, hj⟩
theorem loop_W {I : Addr} {n : Nat} {P : Nat → Value → Prop} {St : Nat → Heap → Prop} {s₂ : Shared} {m : Str → Option Value} {news : List (Addr × Obj)} (W : Walks prog w A I [I] [I] n P St) (J : Nat → (Str → Option Value) → List (Addr × Obj) → Prop)
    (hst : St 0 s₂.heap) (hone : ∀ i h, St i h → ∃ o, h.get? I = some o) (hIL : env.locals ≠ I) (hI0 : h₀.get? I = none) (F : Fr h₀ env.locals s₂.heap m) (N : News h₀ env.locals s₂.heap news) (hoff : ∀ p ∈ news, p.1 ≠ I) (hj : J 0 m news)
    (turn : ∀ i v oI m₁ news₁ h tk, i < n → P i v → J i m₁ news₁ → (∀ p ∈ news₁, p.1 ≠ I) → Fr h₀ env.locals h (fun y => if y = x then some v else m₁ y) → News h₀ env.locals h ((I, oI) :: news₁) →
      wpAny (model prog w) A (execs body env) (TurnPost h₀ env.locals I oI (J (i + 1)) { s₂ with heap := h, toks := tk } Q) E { s₂ with heap := h, toks := tk })
    (done : ∀ m₁ news₁ h tk, J n m₁ news₁ → Fr h₀ env.locals h m₁ → News h₀ env.locals h news₁ → Q .next { s₂ with heap := h, toks := tk }) :
    LoopAtV prog w A h₀ env x body Q E (.ref I) s₂ := by
  refine ⟨I, [I], [I], n, P, St, m, news, J, rfl, W, by simpa using hIL, fun b hb => by rw [List.mem_singleton.mp hb]; exact hI0, fun p hp => by simpa using hoff p hp, hst, F, N, hj, ?_, ?_⟩
  · rintro i v m₁ news₁ s₁ own ⟨h, tk, rfl⟩ hi hP hJ hoff' hown hget hall hst' F₁ N₁
    obtain ⟨oI, hoI⟩ := hone _ _ hst'
    have hmem : (I, oI) ∈ own := hall I (by simp) hI0 oI hoI
    have hone' : ∀ p ∈ own, p = (I, oI) := fun p hp => by
      have h1 := List.mem_singleton.mp (hown p hp)
      have h2 := hget p hp
      rw [h1, hoI] at h2
      obtain ⟨p1, p2⟩ := p
      simp only at h1 h2
      subst h1
      rw [Option.some.inj h2]
    have N₂ : News h₀ env.locals h ((I, oI) :: news₁) := fun p hp => by
      rcases List.mem_cons.mp hp with rfl | hp
      · exact N₁ _ (List.mem_append_left _ hmem)
      · exact N₁ _ (List.mem_append_right _ hp)
    refine wpAny_mono (turn i v oI m₁ news₁ h tk hi hP hJ (fun p hp => by simpa using hoff' p hp) F₁ N₂) (fun f s₃ hf => ?_) fun _ _ e => e
    have fin : TurnEnd h₀ env.locals I oI (J (i + 1)) { s₂ with heap := h, toks := tk } s₃ → LoopStepU h₀ env.locals [I] own (J (i + 1)) { s₂ with heap := h, toks := tk } .next s₃ := by
      rintro ⟨h', tk', m', news', e, F', N', off', hJ'⟩
      refine ⟨rfl, h', tk', m', news', e, F', fun p hp => ?_, fun p hp => by simpa using off' p hp, hJ'⟩
      rcases List.mem_append.mp hp with hp | hp
      · rw [hone' p hp]; exact N' _ (.head _)
      · exact N' _ (.tail _ hp)
    cases f with
    | ret v => exact .ret hf
    | brk => exact .brk hf
    | next => exact .next (fin hf)
    | cont => exact .cont (fin hf)
  · intro h' tk m' news' F' N' _ hJ
    exact done m' news' h' tk hJ F' N'
theorem iter_range {s : Shared} {r : Addr} {a b c : Int} {t u v : Tok} {n : Nat} {m : Str → Option Value} {news : List (Addr × Obj)} (J : Nat → (Str → Option Value) → List (Addr × Obj) → Prop)
    (hh : A.handled = none) (hr : IsRange s.heap r a b c t u v) (hsmall : Builtin.Range.small a b c = true) (hn : Builtin.Range.rangeSize a b c = (n : Int)) (F : Fr h₀ env.locals s.heap m) (N : News h₀ env.locals s.heap news) (hj : J 0 m news)
    (turn : ∀ i t I oI m₁ news₁ h tk, i < n → J i m₁ news₁ → (∀ p ∈ news₁, p.1 ≠ I) → Fr h₀ env.locals h (fun y => if y = x then some (.int (a + (i : Int) * c) t) else m₁ y) → News h₀ env.locals h ((I, oI) :: news₁) →
      wpAny (model prog w) A (execs body env) (TurnPost h₀ env.locals I oI (J (i + 1)) { s with heap := h, toks := tk } Q) E { s with heap := h, toks := tk })
    (done : ∀ m₁ news₁ h tk, J n m₁ news₁ → Fr h₀ env.locals h m₁ → News h₀ env.locals h news₁ → Q .next { s with heap := h, toks := tk }) :
    wpAny (model prog w) A (pyIter (.ref r)) (fun it s₂ => LoopAtV prog w A h₀ env x body Q E it s₂) E s := by
  refine wpAny_pyIter_range hr hsmall ?_
  refine loop_W (Walks.range hh s.heap.objs.size a c n) J (by show IsRangeIter _ _ _ _ _; rw [hn]; simpa using Heap.get?_push_size _ rfl) (fun i h st => ⟨_, st⟩) (Nat.ne_of_lt F.ns.lt) (next_is_new F) (F.push _)
    (fun p hp => ⟨Heap.get?_push_of_some _ (N p hp).1, (N p hp).2⟩) (fun p hp => Nat.ne_of_lt (Heap.lt_size (N p hp).1)) hj ?_ done
  rintro i v oI m₁ news₁ h tk hi ⟨t, rfl⟩ hJ hoff F₁ N₁
  exact turn i t _ oI m₁ news₁ h tk hi hJ hoff F₁ N₁
theorem iter_bytes {s : Shared} {b : Array UInt8} {tb : Tok} {m : Str → Option Value} {news : List (Addr × Obj)} (J : Nat → (Str → Option Value) → List (Addr × Obj) → Prop)
    (hh : A.handled = none) (F : Fr h₀ env.locals s.heap m) (N : News h₀ env.locals s.heap news) (hj : J 0 m news)
    (turn : ∀ i c t I oI m₁ news₁ h tk, i < b.size → b[i]? = some c → J i m₁ news₁ → (∀ p ∈ news₁, p.1 ≠ I) → Fr h₀ env.locals h (fun y => if y = x then some (.int (c.toNat : Int) t) else m₁ y) → News h₀ env.locals h ((I, oI) :: news₁) →
      wpAny (model prog w) A (execs body env) (TurnPost h₀ env.locals I oI (J (i + 1)) { s with heap := h, toks := tk } Q) E { s with heap := h, toks := tk })
    (done : ∀ m₁ news₁ h tk, J b.size m₁ news₁ → Fr h₀ env.locals h m₁ → News h₀ env.locals h news₁ → Q .next { s with heap := h, toks := tk }) :
    wpAny (model prog w) A (pyIter (.bytes b tb)) (fun it s₂ => LoopAtV prog w A h₀ env x body Q E it s₂) E s := by
  refine KBw.pyIter_bytes ?_
  refine loop_W (KBw.walks hh s.heap.objs.size b tb) J ⟨_, Heap.get?_push_size _ rfl, rfl, rfl⟩ (fun i h st => let ⟨o, e, _⟩ := st; ⟨o, e⟩) (Nat.ne_of_lt F.ns.lt) (next_is_new F) (F.push _)
    (fun p hp => ⟨Heap.get?_push_of_some _ (N p hp).1, (N p hp).2⟩) (fun p hp => Nat.ne_of_lt (Heap.lt_size (N p hp).1)) hj ?_ done
  rintro i v oI m₁ news₁ h tk hi ⟨c, t, hc, rfl⟩ hJ hoff F₁ N₁
  exact turn i c t _ oI m₁ news₁ h tk hi hc hJ hoff F₁ N₁
theorem iter_str {s : Shared} {y : Str} {ty : Tok} {m : Str → Option Value} {news : List (Addr × Obj)} (J : Nat → (Str → Option Value) → List (Addr × Obj) → Prop)
    (hh : A.handled = none) (hasc : y.cps.all (· < 128) = true) (F : Fr h₀ env.locals s.heap m) (N : News h₀ env.locals s.heap news) (hj : J 0 m news)
    (turn : ∀ i c t I oI m₁ news₁ h tk, i < y.cps.size → y.cps[i]? = some c → J i m₁ news₁ → (∀ p ∈ news₁, p.1 ≠ I) → Fr h₀ env.locals h (fun z => if z = x then some (.str ⟨#[c]⟩ t) else m₁ z) → News h₀ env.locals h ((I, oI) :: news₁) →
      wpAny (model prog w) A (execs body env) (TurnPost h₀ env.locals I oI (J (i + 1)) { s with heap := h, toks := tk } Q) E { s with heap := h, toks := tk })
    (done : ∀ m₁ news₁ h tk, J y.cps.size m₁ news₁ → Fr h₀ env.locals h m₁ → News h₀ env.locals h news₁ → Q .next { s with heap := h, toks := tk }) :
    wpAny (model prog w) A (pyIter (.str y ty)) (fun it s₂ => LoopAtV prog w A h₀ env x body Q E it s₂) E s := by
  refine wpAny_pyIter_ascii hasc ?_
  refine loop_W (Walks.strAscii hh s.heap.objs.size y ty) J ⟨_, Heap.get?_push_size _ rfl, rfl, rfl⟩ (fun i h st => let ⟨o, e, _⟩ := st; ⟨o, e⟩) (Nat.ne_of_lt F.ns.lt) (next_is_new F) (F.push _)
    (fun p hp => ⟨Heap.get?_push_of_some _ (N p hp).1, (N p hp).2⟩) (fun p hp => Nat.ne_of_lt (Heap.lt_size (N p hp).1)) hj ?_ done
  rintro i v oI m₁ news₁ h tk hi ⟨c, t, hc, rfl⟩ hJ hoff F₁ N₁
  exact turn i c t _ oI m₁ news₁ h tk hi hc hJ hoff F₁ N₁
end
end Mine
namespace Mine
/-- the figures of a row of octets -/
def figs : List Int → List Int
  | [] => []
  | [a] => [a / 4, a % 4 * 16, 64, 64]
  | [a, b] => [a / 4, a % 4 * 16 + b / 16, b % 16 * 4, 64]
  | a :: b :: c :: r => a / 4 :: (a % 4 * 16 + b / 16) :: (b % 16 * 4 + c / 64) :: c % 64 :: figs r
theorem figs_app : ∀ (k : Nat) (a b : List Int), a.length = 3 * k → figs (a ++ b) = figs a ++ figs b
  | 0, [], _, _ => rfl
  | 0, _ :: _, _, h => by simp at h
  | k + 1, [], _, h => by simp at h
  | k + 1, [_], _, h => by simp at h; omega
  | k + 1, [_, _], _, h => by simp at h; omega
  | k + 1, x :: y :: z :: r, b, h => by
    have ih := figs_app k r b (by simp only [List.length_cons] at h; omega)
    simp only [List.cons_append, figs, ih]
theorem figs_len : ∀ a : List Int, (figs a).length ≤ 4 * a.length
  | [] => by simp [figs]
  | [_] => by simp [figs]
  | [_, _] => by simp [figs]
  | _ :: _ :: _ :: r => by
    have ih := figs_len r
    simp only [figs, List.length_cons]
    omega
theorem figs_step (ns : List Int) (i : Nat) (h : 3 * i ≤ ns.length) : figs (ns.take (3 * (i + 1))) = figs (ns.take (3 * i)) ++ figs ((ns.drop (3 * i)).take 3) := by
  rw [← figs_app i _ _ (by rw [List.length_take]; omega), ← List.take_add]
  rfl
end Mine
namespace Mine
theorem range3_size (n : Nat) : Builtin.Range.rangeSize 0 (n : Int) 3 = (((n + 2) / 3 : Nat) : Int) := by
  unfold Builtin.Range.rangeSize
  simp only [show (3 : Int) > 0 by decide, if_true]
  split <;> omega
theorem range3_small (n : Nat) (h : n ≤ 100) : Builtin.Range.small 0 (n : Int) 3 = true := by
  unfold Builtin.Range.small Builtin.Range.rangeFitsLong
  rw [range3_size]
  simp only [Bool.and_eq_true, Bool.or_eq_true, decide_eq_true_eq, show (3 : Int) > 0 by decide, if_true]
  refine ⟨⟨⟨⟨⟨?_, ?_⟩, ⟨?_, ?_⟩⟩, ⟨?_, ?_⟩⟩, ⟨?_, ?_⟩⟩, .inr ⟨?_, ?_⟩⟩ <;> omega
theorem three {α : Type} : ∀ l : List α, 0 < l.length → (∃ p, l.take 3 = [p]) ∨ (∃ p q, l.take 3 = [p, q]) ∨ (∃ p q r, l.take 3 = [p, q, r])
  | [p], _ => .inl ⟨p, rfl⟩
  | [p, q], _ => .inr (.inl ⟨p, q, rfl⟩)
  | p :: q :: r :: _, _ => .inr (.inr ⟨p, q, r, rfl⟩)
theorem pick3 {vs : List Value} {ns : List Int} (hi : IntsAre vs ns) (i : Nat) : ∃ zs, kms_pick vs (some (0 + (i : Int) * 3)) (some (0 + (i : Int) * 3 + 3)) = zs ∧ IntsAre zs ((ns.drop (3 * i)).take 3) := by
  refine ⟨_, rfl, ?_⟩
  have hl := hi.length
  unfold kms_pick kms_lo kms_hi
  simp only [show ¬ ((0 + (i : Int) * 3) < 0) by omega, show ¬ ((0 + (i : Int) * 3 + 3) < 0) by omega, if_false]
  have e1 : (0 + (i : Int) * 3).toNat = 3 * i := by omega
  have e2 : (0 + (i : Int) * 3 + 3).toNat = 3 * i + 3 := by omega
  rw [e1, e2]
  by_cases h : 3 * i ≤ vs.length
  · rw [Nat.min_eq_left h]
    by_cases h3 : 3 * i + 3 ≤ vs.length
    · rw [Nat.min_eq_left h3, show 3 * i + 3 - 3 * i = 3 by omega]
      exact (hi.drop _).take 3
    · rw [Nat.min_eq_right (by omega)]
      have e := (hi.drop (3 * i)).take 3
      rw [List.take_of_length_le (by rw [List.length_drop]; omega)] at e ⊢
      exact e
  · rw [Nat.min_eq_right (by omega), Nat.min_eq_right (by omega)]
    rw [List.drop_of_length_le (Nat.le_refl _), List.drop_of_length_le (by omega)]
    simp only [List.take_nil]
    exact .nil
theorem fig1 (p : Int) : figs [p] = [p.fdiv 4, p.fmod 4 * 16 + Int.fdiv 0 16] ++ [64, 64] := by
  simp [figs, Int.fdiv_eq_ediv_of_nonneg, Int.fmod_eq_emod_of_nonneg]
theorem fig2 (p q : Int) : figs [p, q] = [p.fdiv 4, p.fmod 4 * 16 + q.fdiv 16, q.fmod 16 * 4 + Int.fdiv 0 64] ++ [64] := by
  simp [figs, Int.fdiv_eq_ediv_of_nonneg, Int.fmod_eq_emod_of_nonneg]
theorem fig3 (p q r : Int) : figs [p, q, r] = [p.fdiv 4, p.fmod 4 * 16 + q.fdiv 16, q.fmod 16 * 4 + r.fdiv 64, r.fmod 64] ++ [] := by
  simp [figs, Int.fdiv_eq_ediv_of_nonneg, Int.fmod_eq_emod_of_nonneg]
local macro_rules | `(tactic| is_list) => `(tactic| exact News.isList (by assumption) (by kcf_m))
theorem genToks {α : Type} {M : Model} {A : Around} {t : Sem α} {Q : α → Shared → Prop} {E : Value → Shared → Prop} {h : Heap} {g d o X} (H : ∀ tk, wpAny M A t Q E (Shared.mk h g d tk o)) : wpAny M A t Q E (Shared.mk h g d X o) := H X
local macro_rules | `(tactic| walk_at "execs cons") => `(tactic| ((with_reducible show wpAny _ _ _ _ _ (Shared.mk _ _ _ (_ + 1 + 1 + 1) _)); with_reducible refine genToks ?_; intro tk))
theorem con_figs (w : World) (D : Addr) (vs : List Value) (c : Nat) (ns : List Int) (hi : IntsAre vs ns) (hb : ∀ n ∈ ns, 0 ≤ n ∧ n < 256) (hl : ns.length ≤ 100) : Con w 65 1 [.ref D] (fun news => (D, W.listOf vs.toArray c) ∈ news)
    (fun r tl => ∃ D' us c', r = .ref D' ∧ tl = [(D', W.listOf us.toArray c')] ∧ IntsAre us (figs ns)) := by
  w_top off
  unfold Con
  intro mean mg mb dp un gd cn cs a ccd cl outer A₀ base h₀ L m news s Q E B F X N T hk hdp hun hpre hret
  (revert X; k_fill; intro X)
  have hlen := hi.length
  refine wpAny_call ?_
  k_dflt ktr_enter
  repeat' ((fail_if_success with_reducible show wpAny _ _ (pyIter _) _ _ _); first | (k_unfold; (try dsimp only)) | (k_end; wrow_close) | walk1 | (dsimp only; walk1))
  rename IsRange _ _ _ _ _ _ _ _ => hR
  rename Fr _ _ _ _ => F₁
  rename News _ _ _ _ => N₁
  refine iter_range (n := (ns.length + 2) / 3) (fun i m₁ news₁ => ∃ D' us c', m₁ (Str.ofString "row") = some (.ref D) ∧ m₁ (Str.ofString "figures") = some (.ref D') ∧ (D', W.listOf us.toArray c') :: news = news₁ ∧ IntsAre us (figs (ns.take (3 * i)))) rfl hR ?_ ?_ F₁ N₁ ⟨_, [], 0, rfl, rfl, rfl, .nil⟩ ?_ ?_
  · exact range3_small _ hl
  · exact range3_size _
  · clear hR F₁ N₁
    rintro i t I oI m₁ _ h tk hi' ⟨D', us, c', hm1, hm2, rfl, hus⟩ hoff F₂ N₂
    replace F₂ := frNamed (x := Str.ofString "row") F₂ hm1
    replace F₂ := frNamed (x := Str.ofString "figures") F₂ hm2
    clear hm1 hm2
    have h3 : 3 * i < ns.length := by omega
    repeat' ((fail_if_success with_reducible show wpAny _ _ (exec (Stmt.Assign [Expr.Tuple _ _ _] _ _) _) _ _ _); first | (k_unfold; (try dsimp only)) | (k_end; wrow_close) | walk1 | (dsimp only; walk1))
    obtain ⟨zs, hz, hzi⟩ := pick3 hi i
    have hfl : (figs (ns.take (3 * i))).length ≤ 1000 := Nat.le_trans (figs_len _) (by rw [List.length_take]; omega)
    have hstep := figs_step ns i (by omega)
    refine kms_slice_lit F₂ N₂ (News.isList N₂ (by kcf_m)) (.int _ _) (.int _ _) hz ?_ (by with_unfolding_all rfl) (by intro _; rfl) (by rw [List.size_toArray, sizeLine_eq]; omega)
    intro D₁ h₁ F₃ N₃ l₁
    have hpart : (∃ p, (ns.drop (3 * i)).take 3 = [p]) ∨ (∃ p q, (ns.drop (3 * i)).take 3 = [p, q]) ∨ (∃ p q r, (ns.drop (3 * i)).take 3 = [p, q, r]) := three _ (by rw [List.length_drop]; omega)
    rcases hpart with ⟨p, hp⟩ | ⟨p, q, hp⟩ | ⟨p, q, r, hp⟩
    · rw [hp] at hzi hstep
      cases hzi; rename IntsAre _ [] => hnil; cases hnil
      k_lt l₁
      k_steps
      rename Fr _ _ _ _ => F9
      rename News _ _ _ _ => N9
      rename IntsAre _ (_ ++ _ ++ _) => I9
      rw [List.append_assoc, ← fig1, ← hstep] at I9
      refine TurnEnd.mk' (_ :: news) F9 N9 (by kcf_all) (List.forall_mem_cons.mpr ⟨by k_ne, fun z hz => hoff z (.tail _ hz)⟩) ⟨_, _, _, rfl, rfl, rfl, I9⟩
    · rw [hp] at hzi hstep
      cases hzi; rename IntsAre _ [_] => hnil; cases hnil; rename IntsAre _ [] => hnil; cases hnil
      k_lt l₁
      k_steps
      rename Fr _ _ _ _ => F9
      rename News _ _ _ _ => N9
      rename IntsAre _ (_ ++ _ ++ _) => I9
      rw [List.append_assoc, ← fig2, ← hstep] at I9
      refine TurnEnd.mk' (_ :: news) F9 N9 (by kcf_all) (List.forall_mem_cons.mpr ⟨by k_ne, fun z hz => hoff z (.tail _ hz)⟩) ⟨_, _, _, rfl, rfl, rfl, I9⟩
    · rw [hp] at hzi hstep
      cases hzi; rename IntsAre _ [_, _] => hnil; cases hnil; rename IntsAre _ [_] => hnil; cases hnil; rename IntsAre _ [] => hnil; cases hnil
      k_lt l₁
      k_steps
      rename Fr _ _ _ _ => F9
      rename News _ _ _ _ => N9
      rename IntsAre _ (_ ++ _ ++ _) => I9
      rw [List.append_assoc, ← fig3, ← hstep] at I9
      refine TurnEnd.mk' (_ :: news) F9 N9 (by kcf_all) (List.forall_mem_cons.mpr ⟨by k_ne, fun z hz => hoff z (.tail _ hz)⟩) ⟨_, _, _, rfl, rfl, rfl, I9⟩
  · clear hR F₁ N₁
    rintro m₁ _ h tk ⟨D', us, c', hm1, hm2, rfl, hus⟩ F₂ N₂
    replace F₂ := frNamed (x := Str.ofString "figures") F₂ hm2
    rw [List.take_of_length_le (by omega)] at hus
    k_steps
    exact hret _ [_] _ _ (by assumption) (by assumption) ⟨_, _, _, rfl, rfl, hus⟩
end Mine
namespace Mine
def tabE : List UInt8 := [65, 66, 67, 68, 69, 70, 71, 72, 73, 74, 75, 76, 77, 78, 79, 80, 81, 82, 83, 84, 85, 86, 87, 88, 89, 90, 97, 98, 99, 100, 101, 102, 103, 104, 105, 106, 107, 108, 109, 110, 111, 112, 113, 114, 115, 116, 117, 118, 119, 120, 121, 122, 48, 49, 50, 51, 52, 53, 54, 55, 56, 57, 43, 47, 61]
def codeE (k : Int) : UInt8 := tabE.getD k.toNat 0
def codeI (k : Int) : Int := ((codeE k).toNat : Int)
/-- the whole sixes of a row of octets -/
def sxt : List Int → List Int
  | [] => []
  | [a] => [a / 4]
  | [a, b] => [a / 4, a % 4 * 16 + b / 16]
  | a :: b :: c :: r => a / 4 :: (a % 4 * 16 + b / 16) :: (b % 16 * 4 + c / 64) :: c % 64 :: sxt r
theorem sxt_app : ∀ (k : Nat) (a b : List Int), a.length = 3 * k → sxt (a ++ b) = sxt a ++ sxt b
  | 0, [], _, _ => rfl
  | 0, _ :: _, _, h => by simp at h
  | k + 1, [], _, h => by simp at h
  | k + 1, [_], _, h => by simp at h; omega
  | k + 1, [_, _], _, h => by simp at h; omega
  | k + 1, x :: y :: z :: r, b, h => by
    have ih := sxt_app k r b (by simp only [List.length_cons] at h; omega)
    simp only [List.cons_append, sxt, ih]
theorem lenTake {l : List Int} {i : Nat} {c : Int} (hc : l[i]? = some c) : (l.take i).length = i := by
  have := (List.getElem?_eq_some_iff.mp hc).1
  rw [List.length_take]; omega
theorem takeSnoc {l : List Int} {i : Nat} {c : Int} (hc : l[i]? = some c) : l.take (i + 1) = l.take i ++ [c] := by
  rw [List.take_add_one, hc]; rfl
theorem sxt0 {l : List Int} {i : Nat} {c : Int} (hi : i % 3 = 0) (hc : l[i]? = some c) : sxt (l.take (i + 1)) = sxt (l.take i) ++ [c / 4] := by
  rw [takeSnoc hc, sxt_app (i / 3) _ _ (by rw [lenTake hc]; omega)]; rfl
theorem sxt1 {l : List Int} {i : Nat} {a c : Int} (hi : i % 3 = 0) (ha : l[i]? = some a) (hc : l[i + 1]? = some c) : sxt (l.take (i + 1 + 1)) = sxt (l.take (i + 1)) ++ [a % 4 * 16 + c / 16] := by
  rw [takeSnoc hc, takeSnoc ha, List.append_assoc, sxt_app (i / 3) (l.take i) ([a] ++ [c]) (by rw [lenTake ha]; omega), sxt_app (i / 3) (l.take i) [a] (by rw [lenTake ha]; omega), List.append_assoc]; rfl
theorem sxt2 {l : List Int} {i : Nat} {a b c : Int} (hi : i % 3 = 0) (ha : l[i]? = some a) (hb : l[i + 1]? = some b) (hc : l[i + 1 + 1]? = some c) : sxt (l.take (i + 1 + 1 + 1)) = sxt (l.take (i + 1 + 1)) ++ [b % 16 * 4 + c / 64, c % 64] := by
  rw [takeSnoc hc, takeSnoc hb, takeSnoc ha, List.append_assoc (l.take i) [a] [b], List.append_assoc (l.take i) ([a] ++ [b]) [c], sxt_app (i / 3) (l.take i) ([a] ++ [b] ++ [c]) (by rw [lenTake ha]; omega), sxt_app (i / 3) (l.take i) ([a] ++ [b]) (by rw [lenTake ha]; omega), List.append_assoc (sxt (l.take i))]; rfl
theorem sxt_len : ∀ a : List Int, (sxt a).length ≤ 4 * a.length
  | [] => by simp [sxt]
  | [_] => by simp [sxt]
  | [_, _] => by simp [sxt]
  | _ :: _ :: _ :: r => by
    have ih := sxt_len r
    simp only [sxt, List.length_cons]
    omega
theorem bitOr_nn (x y : Nat) : Builtin.bitOr (x : Int) (y : Int) = ((x ||| y : Nat) : Int) := by
  have hx : decide ((0 : Int) ≤ -(x : Int) - 1) = false := decide_eq_false (by omega)
  have hy : decide ((0 : Int) ≤ -(y : Int) - 1) = false := decide_eq_false (by omega)
  unfold Builtin.bitOr Builtin.bitAnd Builtin.bitNot
  simp only [hx, hy]
  have e1 : (-(-(x : Int) - 1) - 1).toNat = x := by omega
  have e2 : (-(-(y : Int) - 1) - 1).toNat = y := by omega
  rw [e1, e2]; omega
theorem bitOr_sh (lc : Int) (c : Nat) (h0 : 0 ≤ lc) (hc : c < 256) : Builtin.bitOr (lc * 2 ^ Int.toNat 8) (c : Int) = lc * 256 + c := by
  obtain ⟨n, rfl⟩ := Int.eq_ofNat_of_zero_le h0
  have e : ((n : Int) * (2 : Int) ^ Int.toNat 8) = ((n <<< 8 : Nat) : Int) := by
    rw [Nat.shiftLeft_eq]
    rw [show (2 : Int) ^ Int.toNat 8 = 256 from rfl]
    omega
  show Builtin.bitOr ((n : Int) * (2 : Int) ^ Int.toNat 8) (c : Int) = _
  rw [e, bitOr_nn, ← Nat.shiftLeft_add_eq_or_of_lt (by simpa using hc), Nat.shiftLeft_eq]
  omega
theorem and63 (x : Int) : 0 ≤ Builtin.bitAnd x 63 ∧ Builtin.bitAnd x 63 < 64 := by
  rw [bitAnd_m6]; omega
theorem sh3 (x : Int) : 0 ≤ Builtin.bitAnd x 3 * 2 ^ Int.toNat 4 ∧ Builtin.bitAnd x 3 * 2 ^ Int.toNat 4 < 64 := by
  rw [bitAnd_m2, show (2 : Int) ^ Int.toNat 4 = 16 from rfl]; omega
theorem sh15 (x : Int) : 0 ≤ Builtin.bitAnd x 15 * 2 ^ Int.toNat 2 ∧ Builtin.bitAnd x 15 * 2 ^ Int.toNat 2 < 64 := by
  rw [bitAnd_m4, show (2 : Int) ^ Int.toNat 2 = 4 from rfl]; omega
local macro_rules | `(tactic| k_room) => `(tactic| ktr_room)
local macro_rules | `(tactic| walk_at "call type:type") => `(tactic| (refine call_type_of (Tx := "bytes") rfl (by decide) ?_))
local macro_rules | `(tactic| walk_at "call type:type") => `(tactic| (refine call_type_of (Tx := "bool") rfl (by decide) ?_))
local macro_rules | `(tactic| walk_at "subscriptTail") => `(tactic| ((with_reducible show wpAny _ _ (subscriptTail _ _ (Value.bytes _ _) (Value.int _ _)) _ _ _); refine subscriptTail_builtin (typeIs_bytes _ _ _) FB.slot_bytes_getitem.lookup (getItem_bytes (by decide) (by first | exact (and63 _).1 | exact (sh3 _).1 | exact (sh15 _).1) (by first | exact (and63 _).2 | exact (sh3 _).2 | exact (sh15 _).2) ?_)))
theorem and3b (x : Int) : (Builtin.bitAnd x 3).natAbs < 2 ^ 64 := by rw [bitAnd_m2]; omega
theorem and15b (x : Int) : (Builtin.bitAnd x 15).natAbs < 2 ^ 64 := by rw [bitAnd_m4]; omega
local macro_rules | `(tactic| walk_at "binaryOp LShift int int") => `(tactic| ((with_reducible refine lshift_int_small ?kb1 ?kb2 ?kb3 ?_); (case kb1 => decide); (case kb2 => decide); (case kb3 => first | exact and3b _ | exact and15b _)))
local macro_rules | `(tactic| walk_at "call builtin:list.append") => `(tactic| ((with_reducible show wpAny _ _ (call (Value.builtin _) [Value.ref _, _]) _ _ _); k_dflt (refine' append_K ?k1 ?k2 ?k3 ?_ ?z; (case k1 => k_asm); (case k2 => k_asm); (case k3 => first | exact Upd.head (by assumption) | exact Upd.tail (by assumption) (Upd.head (by assumption))); (case z => (simp only [Array.size_push, List.size_toArray, List.length_append, List.length_cons, List.length_nil, sizeLine_eq]; omega)); k_whole); intro h' F' N'))
abbrev tabL : List UInt8 := [65, 66, 67, 68, 69, 70, 71, 72, 73, 74, 75, 76, 77, 78, 79, 80, 81, 82, 83, 84, 85, 86, 87, 88, 89, 90, 97, 98, 99, 100, 101, 102, 103, 104, 105, 106, 107, 108, 109, 110, 111, 112, 113, 114, 115, 116, 117, 118, 119, 120, 121, 122, 48, 49, 50, 51, 52, 53, 54, 55, 56, 57, 43, 47]
theorem tab_all : ∀ n, n < 64 → tabL.getD n 0 = tabE.getD n 0 := by decide
theorem code_tab {k k' : Int} (h0 : 0 ≤ k) (h1 : k < 64) (e : k = k') : (((tabL.getD k.toNat 0).toNat : Nat) : Int) = codeI k' := by
  subst e
  unfold codeI codeE
  rw [tab_all k.toNat (by omega)]
def J50 (b : Array UInt8) (news : List (Addr × Obj)) (i : Nat) (m₁ : Str → Option Value) (news₁ : List (Addr × Obj)) : Prop :=
  ∃ D' us c' lc tl tb, m₁ (Str.ofString "newline") = some (.bool false) ∧ m₁ (Str.ofString "out") = some (.ref D') ∧ m₁ (Str.ofString "leftchar") = some (.int lc tl) ∧ m₁ (Str.ofString "leftbits") = some (.int (2 * ((i % 3 : Nat) : Int)) tb) ∧ (D', W.listOf us.toArray c') :: news = news₁ ∧ (∀ p ∈ news, p.1 ≠ D') ∧ 0 ≤ lc ∧ lc < 65536 ∧ (∀ a, 0 < i → (KBw.bInts b)[i - 1]? = some a → lc % 256 = a) ∧
    IntsAre us ((sxt ((KBw.bInts b).take i)).map codeI)
theorem j50_end {b : Array UInt8} {news : List (Addr × Obj)} {i : Nat} {c : UInt8} {h₀ h' : Heap} {L I D' : Addr} {oI : Obj} {m' : Str → Option Value} {s₁ : Shared} {tk c' : Nat} {us vs : List Value} {arr : Array Value} {lc lcx bits : Int} {tl tb : Tok}
    (F : Fr h₀ L h' m') (N : News h₀ L h' ((I, oI) :: (D', W.listOf arr c') :: news)) (hc : b[i]? = some c) (h1 : m' (Str.ofString "newline") = some (.bool false)) (h2 : m' (Str.ofString "out") = some (.ref D')) (h3 : m' (Str.ofString "leftchar") = some (.int lcx tl)) (h4 : m' (Str.ofString "leftbits") = some (.int bits tb))
    (harr : arr = (us ++ vs).toArray) (hbits : bits = 2 * (((i + 1) % 3 : Nat) : Int)) (hDI : @Ne Nat I D') (hoff : ∀ p ∈ news, p.1 ≠ I) (hDn : ∀ p ∈ news, p.1 ≠ D') (hlcx : lcx = (lc * 256 + c.toNat) % 65536) (hus : IntsAre (us ++ vs) ((sxt ((KBw.bInts b).take (i + 1))).map codeI)) :
    TurnEnd h₀ L I oI (J50 b news (i + 1)) s₁ { s₁ with heap := h', toks := tk } := by
  subst harr hbits
  have hc256 : c.toNat < 256 := c.toNat_lt
  refine TurnEnd.mk' (_ :: news) F N (fun p hp => hp) (List.forall_mem_cons.mpr ⟨fun e => hDI e.symm, hoff⟩) ⟨D', us ++ vs, c', lcx, tl, tb, h1, h2, h3, h4, rfl, hDn, by omega, by omega, ?_, hus⟩
  intro a _ ha
  have := KBw.ints_get hc
  rw [Nat.add_sub_cancel, this] at ha
  have ha' := Option.some.inj ha
  omega
theorem push2 (us : List Value) (x y : Value) : (us.toArray.push x).push y = (us ++ [x, y]).toArray := by simp
theorem push2' (us : List Value) (x y : Value) : (us ++ [x]).toArray.push y = (us ++ [x, y]).toArray := by simp
theorem push3 (us : List Value) (x y z : Value) : ((us.toArray.push x).push y).push z = (us ++ [x, y, z]).toArray := by simp
theorem figs_sxt0 : ∀ l : List Int, l.length % 3 = 0 → figs l = sxt l
  | [], _ => rfl
  | [_], h => by simp at h
  | [_, _], h => by simp at h
  | _ :: _ :: _ :: r, h => by
    have ih := figs_sxt0 r (by simp only [List.length_cons] at h; omega)
    simp only [figs, sxt, ih]
theorem figs_sxt1 {a : Int} : ∀ l : List Int, l.length % 3 = 1 → l[l.length - 1]? = some a → figs l = sxt l ++ [a % 4 * 16, 64, 64]
  | [], h, _ => by simp at h
  | [x], _, h => by simp at h; subst h; rfl
  | [_, _], h, _ => by simp at h
  | [_, _, _], h, _ => by simp at h
  | x :: y :: z :: u :: r, h, ha => by
    have ih := figs_sxt1 (a := a) (u :: r) (by simp only [List.length_cons] at h ⊢; omega) (by simpa using ha)
    simp only [figs, sxt, ih, List.cons_append]
theorem figs_sxt2 {a : Int} : ∀ l : List Int, l.length % 3 = 2 → l[l.length - 1]? = some a → figs l = sxt l ++ [a % 16 * 4, 64]
  | [], h, _ => by simp at h
  | [x], h, _ => by simp at h
  | [_, _], _, h => by simp at h; subst h; rfl
  | [_, _, _], h, _ => by simp at h
  | x :: y :: z :: u :: r, h, ha => by
    have ih := figs_sxt2 (a := a) (u :: r) (by simp only [List.length_cons] at h ⊢; omega) (by simpa using ha)
    simp only [figs, sxt, ih, List.cons_append]
theorem byteArr_code (l : List Int) : byteArr (l.map codeI) = (l.map codeE).toArray := by
  unfold byteArr
  rw [List.map_map]
  congr 2
  funext k
  simp [codeI]
theorem code_in (l : List Int) : KBa.In (l.map codeI) := by
  intro n hn
  obtain ⟨k, _, rfl⟩ := List.mem_map.mp hn
  have := (codeE k).toNat_lt
  unfold codeI
  omega
theorem fin0 {b : Array UInt8} {us : List Value} (h : b.size % 3 = 0) (hus : IntsAre us ((sxt ((KBw.bInts b).take b.size)).map codeI)) : IntsAre us ((figs (KBw.bInts b)).map codeI) := by
  rw [List.take_of_length_le (by rw [KBw.ints_length]; exact Nat.le_refl _)] at hus
  rw [figs_sxt0 _ (by rw [KBw.ints_length]; exact h)]; exact hus
theorem fin1 {b : Array UInt8} {us : List Value} {a x : Int} {t u v : Tok} (h : b.size % 3 = 1) (ha : (KBw.bInts b)[b.size - 1]? = some a) (hus : IntsAre us ((sxt ((KBw.bInts b).take b.size)).map codeI)) (hx : x = codeI (a % 4 * 16)) : IntsAre (us ++ [.int x t, .int 61 u, .int 61 v]) ((figs (KBw.bInts b)).map codeI) := by
  rw [List.take_of_length_le (by rw [KBw.ints_length]; exact Nat.le_refl _)] at hus
  rw [figs_sxt1 _ (by rw [KBw.ints_length]; exact h) (by rw [KBw.ints_length]; exact ha), List.map_append, hx]
  exact hus.append (.cons _ _ (.cons _ _ (.cons _ _ .nil)))
theorem fin2 {b : Array UInt8} {us : List Value} {a x : Int} {t u : Tok} (h : b.size % 3 = 2) (ha : (KBw.bInts b)[b.size - 1]? = some a) (hus : IntsAre us ((sxt ((KBw.bInts b).take b.size)).map codeI)) (hx : x = codeI (a % 16 * 4)) : IntsAre (us ++ [.int x t, .int 61 u]) ((figs (KBw.bInts b)).map codeI) := by
  rw [List.take_of_length_le (by rw [KBw.ints_length]; exact Nat.le_refl _)] at hus
  rw [figs_sxt2 _ (by rw [KBw.ints_length]; exact h) (by rw [KBw.ints_length]; exact ha), List.map_append, hx]
  exact hus.append (.cons _ _ (.cons _ _ .nil))
theorem lcx_eq (lc : Int) (c : UInt8) (h0 : 0 ≤ lc) : Builtin.bitAnd (Builtin.bitOr (lc * 2 ^ Int.toNat 8) (c.toNat : Int)) 65535 = (lc * 256 + c.toNat) % 65536 := by
  rw [bitOr_sh lc c.toNat h0 c.toNat_lt, bitAnd_m16]
theorem out0 {l : List Int} {us : List Value} {i : Nat} {c x : Int} {t : Tok} (hi : i % 3 = 0) (hc : l[i]? = some c) (hus : IntsAre us ((sxt (l.take i)).map codeI)) (hx : x = codeI (c / 4)) : IntsAre (us ++ [.int x t]) ((sxt (l.take (i + 1))).map codeI) := by
  rw [sxt0 hi hc, List.map_append, hx]; exact hus.append (.cons _ _ .nil)
theorem out1 {l : List Int} {us : List Value} {i : Nat} {a c x : Int} {t : Tok} (hi : i % 3 = 1) (ha : l[i - 1]? = some a) (hc : l[i]? = some c) (hus : IntsAre us ((sxt (l.take i)).map codeI)) (hx : x = codeI (a % 4 * 16 + c / 16)) : IntsAre (us ++ [.int x t]) ((sxt (l.take (i + 1))).map codeI) := by
  obtain ⟨j, rfl⟩ : ∃ j, i = j + 1 := ⟨i - 1, by omega⟩
  rw [Nat.add_sub_cancel] at ha
  rw [sxt1 (by omega) ha hc, List.map_append, hx]; exact hus.append (.cons _ _ .nil)
theorem out2 {l : List Int} {us : List Value} {i : Nat} {b c x y : Int} {t u : Tok} (hi : i % 3 = 2) (hb : l[i - 1]? = some b) (hc : l[i]? = some c) (hus : IntsAre us ((sxt (l.take i)).map codeI)) (hx : x = codeI (b % 16 * 4 + c / 64)) (hy : y = codeI (c % 64)) : IntsAre (us ++ [.int x t, .int y u]) ((sxt (l.take (i + 1))).map codeI) := by
  obtain ⟨j, rfl⟩ : ∃ j, i = j + 1 + 1 := ⟨i - 2, by omega⟩
  have hl : j < l.length := by have := (List.getElem?_eq_some_iff.mp hc).1; omega
  rw [Nat.add_sub_cancel] at hb
  rw [sxt2 (a := l[j]) (by omega) (by simp [hl]) hb hc, List.map_append, hx, hy]; exact hus.append (.cons _ _ (.cons _ _ .nil))
theorem con_b2a (w : World) (b : Array UInt8) (t : Tok) (hl : b.size ≤ 100) : ConK w 50 2 [.bytes b t] [(Str.ofString "newline", .bool false)] (fun _ => True)
    (fun r tl => tl = [] ∧ ∃ t', r = .bytes ((figs (KBw.bInts b)).map codeE).toArray t') := by
  w_top off
  unfold ConK
  intro mean mg mb dp un gd cn cs a ccd cl outer A₀ base h₀ L m news s Q E B F X N T hk hdp hun hpre hret
  (revert X; k_fill; intro X)
  refine wpAny_call ?_
  k_dflt (refine' code_def ?k1 ?k2 ?k3 ?k4 ?k5 ?kA ?kF ?kK ?k6 ?k7 ?k8 ?k9 ?kB ?_ ?c2 ?c3 ?c4 ?c5; (case kA => exact rfl); (case kF => exact rfl); (case kK => assumption); (case k1 => k_asm); (case k2 => k_asm); (case k3 => k_asm); (case k4 => k_asm); (case k5 => k_asm); (case k6 => k_is); (case k7 => k_is); (case k8 => ktr_room); (case k9 => first | exact BindsTo.of_eq rfl | exact binds_K (by k_in) rfl (by k_is) rfl rfl rfl); (case c5 => decide); (case kB => exact locs rfl); (case c2 => exact rfl); (case c3 => exact rfl); (case c4 => exact rfl); k_whole; intro g' L' h' FG' F' N' B' X' T'; (try dsimp only); (try k_fold))
  repeat' ((fail_if_success with_reducible show wpAny _ _ (pyIter _) _ _ _); first | (k_unfold; (try dsimp only)) | (k_end; wrow_close) | walk1 | (dsimp only; walk1))
  rename Fr _ _ _ _ => F₁
  rename News _ _ _ _ => N₁
  rename ∀ (p : Addr × Obj), p ∈ news → p.1 < _ => hlt
  refine iter_bytes (J50 b news) rfl F₁ N₁ ⟨_, [], 0, _, _, _, rfl, rfl, rfl, rfl, rfl, fun p hp => Nat.ne_of_lt (hlt p hp), Int.le_refl _, by decide, fun _ h => absurd h (by omega), .nil⟩ ?_ ?_
  · clear F₁ N₁
    rintro i c t I oI m₁ _ h tk hi' hc ⟨D', us, c', lc, tl, tb, hm1, hm2, hm3, hm4, rfl, hDn, hlc0, hlc1, hlast, hus⟩ hoff F₂ N₂
    have hc256 : c.toNat < 256 := c.toNat_lt
    replace F₂ := frNamed (x := Str.ofString "newline") F₂ hm1
    replace F₂ := frNamed (x := Str.ofString "out") F₂ hm2
    replace F₂ := frNamed (x := Str.ofString "leftchar") F₂ hm3
    replace F₂ := frNamed (x := Str.ofString "leftbits") F₂ hm4
    clear hm1 hm2 hm3 hm4
    have hDI : @Ne Nat I D' := fun e => hoff _ (.head _) e.symm
    have hoff' : ∀ p ∈ news, p.1 ≠ I := fun p hp => hoff p (.tail _ hp)
    have hul : us.length ≤ 500 := by
      have h1 := hus.length
      rw [List.length_map] at h1
      have h2 := sxt_len ((KBw.bInts b).take i)
      rw [List.length_take] at h2
      omega
    have hlx := lcx_eq lc c hlc0
    have hcg := KBw.ints_get hc
    have h3 : i % 3 = 0 ∨ i % 3 = 1 ∨ i % 3 = 2 := by omega
    rcases h3 with h3 | h3 | h3
    · rw [h3] at F₂
      k_steps
      rename Fr _ _ _ _ => F9
      rename News _ _ _ _ => N9
      refine j50_end F9 N9 hc rfl rfl rfl rfl (List.push_toArray _ _) (by rw [show (i + 1) % 3 = 1 by omega]; rfl) hDI hoff' hDn hlx (out0 h3 hcg hus (code_tab (and63 _).1 (and63 _).2 ?_))
      rw [bitAnd_m6, hlx, show (2 : Int) ^ (2 * ((0 : Nat) : Int) + 8 - 6).toNat = 4 from rfl, Int.fdiv_eq_ediv_of_nonneg _ (by decide)]
      omega
    · rw [h3] at F₂
      obtain ⟨a, ha⟩ : ∃ a, (KBw.bInts b)[i - 1]? = some a := by
        have hlt := (List.getElem?_eq_some_iff.mp hcg).1
        exact ⟨(KBw.bInts b)[i - 1], by simp⟩
      have hla := hlast a (by omega) ha
      k_steps
      rename Fr _ _ _ _ => F9
      rename News _ _ _ _ => N9
      refine j50_end F9 N9 hc rfl rfl rfl rfl (List.push_toArray _ _) (by rw [show (i + 1) % 3 = 2 by omega]; rfl) hDI hoff' hDn hlx (out1 h3 ha hcg hus (code_tab (and63 _).1 (and63 _).2 ?_))
      rw [bitAnd_m6, hlx, show (2 : Int) ^ (2 * ((1 : Nat) : Int) + 8 - 6).toNat = 16 from rfl, Int.fdiv_eq_ediv_of_nonneg _ (by decide)]
      omega
    · rw [h3] at F₂
      obtain ⟨a, ha⟩ : ∃ a, (KBw.bInts b)[i - 1]? = some a := by
        have hlt := (List.getElem?_eq_some_iff.mp hcg).1
        exact ⟨(KBw.bInts b)[i - 1], by simp⟩
      have hla := hlast a (by omega) ha
      k_steps
      rename Fr _ _ _ _ => F9
      rename News _ _ _ _ => N9
      refine j50_end F9 N9 hc rfl rfl rfl rfl (push2' us _ _) (by rw [show (i + 1) % 3 = 0 by omega]; rfl) hDI hoff' hDn hlx (out2 h3 ha hcg hus (code_tab (and63 _).1 (and63 _).2 ?_) (code_tab (and63 _).1 (and63 _).2 ?_))
      · rw [bitAnd_m6, hlx, show (2 : Int) ^ (2 * ((2 : Nat) : Int) + 8 - 6).toNat = 64 from rfl, Int.fdiv_eq_ediv_of_nonneg _ (by decide)]
        omega
      · rw [bitAnd_m6, hlx, show (2 : Int) ^ (2 * ((2 : Nat) : Int) + 8 - 6 - 6).toNat = 1 from rfl, Int.fdiv_eq_ediv_of_nonneg _ (by decide)]
        omega
  · clear F₁ N₁
    rintro m₁ _ h tk ⟨D', us, c', lc, tl, tb, hm1, hm2, hm3, hm4, rfl, hDn, hlc0, hlc1, hlast, hus⟩ F₂ N₂
    replace F₂ := frNamed (x := Str.ofString "newline") F₂ hm1
    replace F₂ := frNamed (x := Str.ofString "out") F₂ hm2
    replace F₂ := frNamed (x := Str.ofString "leftchar") F₂ hm3
    replace F₂ := frNamed (x := Str.ofString "leftbits") F₂ hm4
    clear hm1 hm2 hm3 hm4
    have hul : us.length ≤ 500 := by
      have h1 := hus.length
      rw [List.length_map] at h1
      have h2 := sxt_len ((KBw.bInts b).take b.size)
      rw [List.length_take] at h2
      omega
    have h3 : b.size % 3 = 0 ∨ b.size % 3 = 1 ∨ b.size % 3 = 2 := by omega
    have hfl : ((figs (KBw.bInts b)).map codeI).length ≤ 16777216 := by
      have h1 := figs_len (KBw.bInts b)
      rw [KBw.ints_length] at h1
      rw [List.length_map]
      omega
    rcases h3 with h3 | h3 | h3
    · rw [h3] at F₂
      k_steps
      rename Fr _ _ _ _ => F9
      rename News _ _ _ _ => N9
      refine KBa.make_K F9 N9 rfl (News.isList N9 (.head _)) (fin0 h3 hus) (code_in _) hfl ?_
      intro h8 t8 k8 F8 N8 _
      rw [byteArr_code]
      k_steps
      exact hret _ [] _ _ (by assumption) (newsSub (by assumption) (fun p hp => .tail _ hp)) ⟨rfl, _, rfl⟩
    · rw [h3] at F₂
      obtain ⟨a, ha⟩ : ∃ a, (KBw.bInts b)[b.size - 1]? = some a := by
        have hlt := KBw.ints_length b
        exact ⟨(KBw.bInts b)[b.size - 1], by simp⟩
      have hla := hlast a (by omega) ha
      k_steps
      rename Fr _ _ _ _ => F9
      rename News _ _ _ _ => N9
      rw [push3] at N9
      refine KBa.make_K F9 N9 rfl (News.isList N9 (.head _)) (fin1 h3 ha hus (code_tab (sh3 _).1 (sh3 _).2 ?_)) (code_in _) hfl ?_
      · rw [bitAnd_m2, show (2 : Int) ^ Int.toNat 4 = 16 from rfl]; omega
      intro h8 t8 k8 F8 N8 _
      rw [byteArr_code]
      k_steps
      exact hret _ [] _ _ (by assumption) (newsSub (by assumption) (fun p hp => .tail _ hp)) ⟨rfl, _, rfl⟩
    · rw [h3] at F₂
      obtain ⟨a, ha⟩ : ∃ a, (KBw.bInts b)[b.size - 1]? = some a := by
        have hlt := KBw.ints_length b
        exact ⟨(KBw.bInts b)[b.size - 1], by simp⟩
      have hla := hlast a (by omega) ha
      k_steps
      rename Fr _ _ _ _ => F9
      rename News _ _ _ _ => N9
      rw [push2] at N9
      refine KBa.make_K F9 N9 rfl (News.isList N9 (.head _)) (fin2 h3 ha hus (code_tab (sh15 _).1 (sh15 _).2 ?_)) (code_in _) hfl ?_
      · rw [bitAnd_m4, show (2 : Int) ^ Int.toNat 2 = 4 from rfl]; omega
      intro h8 t8 k8 F8 N8 _
      rw [byteArr_code]
      k_steps
      exact hret _ [] _ _ (by assumption) (newsSub (by assumption) (fun p hp => .tail _ hp)) ⟨rfl, _, rfl⟩
end Mine
namespace Mine
open Builtin in
theorem slot_translate : Slot "bytes" "translate" "bytes.translate" :=
  .of (owner := "bytes") (n := "translate") (by rw [typeLookup_type, builtinLookup_eq_fast]; kernel_rfl) (by decide +kernel) (by decide +kernel) (by decide +kernel)
    (by first | exact .inl (by decide +kernel) | exact .inr (by decide +kernel)) (by rw [isSubtype_type]; kernel_rfl)
theorem type_translate : typeOf (.builtin "bytes.translate") = pure (.type "method_descriptor") := by show builtinType _ = _; rw [builtinType_eq_fast]; kernel_rfl
theorem entry_translate : entryFor table "bytes.translate" = some Builtin.«bytes.translate» := entryFor_of_tree (by kernel_rfl)
theorem args_translate (a b : Value) : argsOk "bytes.translate" ⟨[a, b], []⟩ := by
  unfold argsOk; rw [signature?_of (id := "bytes.translate") (n := ['e', 't', 'a', 'l', 's', 'n', 'a', 'r', 't']) (o := ['s', 'e', 't', 'y', 'b']) (by kernel_rfl) FB.owner_bytes]; kernel_rfl
theorem entry_maketrans : entryFor table "bytes.maketrans" = some Builtin.«bytes.maketrans» := entryFor_of_tree (by kernel_rfl)
theorem plain_maketrans : plainId "bytes.maketrans" = true := by decide +kernel
theorem check_maketrans (a b : Value) : checkBuiltinCall "bytes.maketrans" ⟨[a, b], []⟩ = pure () := by kernel_rfl
theorem meta_bytes : typeOf (.type "bytes") = pure (.type "type") := by first | rfl | kernel_rfl
def trTab (c1 c2 : UInt8) : Array UInt8 := (((Array.range 256).map (·.toUInt8)).setIfInBounds 43 c1).setIfInBounds 47 c2
def trs (c1 c2 c : UInt8) : UInt8 := if c = 47 then c2 else if c = 43 then c1 else c
theorem trTab_size (c1 c2 : UInt8) : (trTab c1 c2).size = 256 := by simp [trTab]
theorem trTab_get (c1 c2 c : UInt8) : (trTab c1 c2).getD c.toNat c = trs c1 c2 c := by
  have hc : c.toNat < 256 := c.toNat_lt
  rw [Array.getD_eq_getD_getElem?]
  unfold trTab trs
  by_cases h1 : c = 47
  · subst h1; simp
  · by_cases h2 : c = 43
    · subst h2; simp
    · have n1 : ¬ 47 = c.toNat := fun e => h1 (by apply UInt8.toNat_inj.mp; exact e.symm)
      have n2 : ¬ 43 = c.toNat := fun e => h2 (by apply UInt8.toNat_inj.mp; exact e.symm)
      simp [Array.getElem?_setIfInBounds, n1, n2, h1, h2, hc]
section
variable {prog : Program} {w : World} {A : Around} {E : Value → Shared → Prop} {s : Shared}
theorem call_maketrans {c1 c2 : UInt8} {t u : Tok} {Q : Value → Shared → Prop} (h : Q (.bytes (trTab c1 c2) s.toks) { s with toks := s.toks + 1 }) :
    wpAny (model prog w) A (call (.builtin "bytes.maketrans") [.bytes #[43, 47] t, .bytes #[c1, c2] u]) Q E s := by
  refine wpAny_call (codeAny_call_builtin plain_maketrans entry_maketrans (wpAny_of_eq (check_maketrans _ _) ?_))
  show wpAny _ _ (Builtin.Bytes.bytesLike _ (.bytes #[43, 47] t) >>= fun r => _) _ _ s
  refine wpAny_bind (wpAny_of_eq KBd.like_eq ?_)
  refine wpAny_bind (wpAny_of_eq KBd.like_eq ?_)
  refine KFB.if_not rfl ?_
  refine wpAny_bind ?_
  unfold mkBytes
  rw [if_neg (by show ¬ (trTab c1 c2).size > sizeLine; rw [trTab_size, sizeLine_eq]; omega)]
  refine wpAny_bind (wpAny_fresh ?_)
  exact wpAny_pure (wpAny_pure h)
theorem meets_translate (b tb : Array UInt8) (t u : Tok) (htb : tb.size = 256) (hb : b.size ≤ 1000) :
    Meets (Builtin.«bytes.translate» ⟨[.bytes b t, .bytes tb u], []⟩) (fun _ R s => ∀ t' k, R (.ok (.ret (.bytes (b.map fun c => tb.getD c.toNat c) t'))) { s with toks := k }) := by
  refine .of_wp fun prog w A R s hS => ?_
  unfold Builtin.«bytes.translate» Builtin.Bytes.translateM
  dsimp only
  refine wpAny_ite ((if_neg (by simp)).mpr ?_)
  refine wpAny_ite ((if_neg (by simp)).mpr ?_)
  refine wpAny_ite ((if_neg (by simp)).mpr ?_)
  refine wpAny_bind (wpAny_of_eq KBd.like_eq ?_)
  refine wpAny_ite ((if_neg (by simp [htb])).mpr ?_)
  refine wpAny_bind (wpAny_pure ?_)
  refine wpAny_bind (wpAny_pure ?_)
  refine wpAny_bind (wpAny_of_eq (a := b) rfl ?_)
  have ef : Array.filter (fun x => !(#[] : Array UInt8).contains x) b = b := by simp
  rw [ef]
  by_cases e : ((b.map fun c => tb.getD c.toNat c) == b) = true
  · have e' := beq_iff_eq.mp e
    refine wpAny_ite ((if_pos e).mpr ?_)
    refine wpAny_bind (wpAny_rule ?_)
    refine wpAny_bind (wpAny_of_eq (a := Value.bytes b t) rfl ?_)
    refine wpAny_pure ⟨_, rfl, ?_⟩
    have h9 := hS t s.toks
    rw [show (b.map fun c => tb.getD c.toNat c) = b from e'] at h9
    exact h9
  · refine wpAny_ite ((if_neg e).mpr ?_)
    refine wpAny_bind ?_
    show wpAny _ _ (mkBytes _) _ _ _
    unfold mkBytes
    rw [if_neg (by rw [Array.size_map, sizeLine_eq]; omega)]
    refine wpAny_bind (wpAny_fresh ?_)
    exact wpAny_pure (wpAny_pure ⟨_, rfl, hS _ _⟩)
theorem call_translate {b tb : Array UInt8} {t u : Tok} {Q : Value → Shared → Prop} (htb : tb.size = 256) (hb : b.size ≤ 1000) (h : ∀ t' k, Q (.bytes (b.map fun c => tb.getD c.toNat c) t') { s with toks := k }) :
    wpAny (model prog w) A (call (.builtin "bytes.translate") [.bytes b t, .bytes tb u]) Q E s :=
  call_meets slot_translate (typeIs_bytes _ _ _) entry_translate (args_translate _ _) (meets_translate b tb t u htb hb) h
theorem getm_translate {M : Model} {b : Array UInt8} {t : Tok} {pl : Sem Bool} {Q : Value × List Value → Shared → Prop} (h : Q (.builtin "bytes.translate", [.bytes b t]) s) : wpAny M A (getMethod (.bytes b t) "translate" pl) Q E s := by
  with_reducible exact KBd.method_of (.bytes b t) (typeIs_bytes _ _ _) slot_translate type_translate KBd.noRef h
end
local macro_rules | `(tactic| k_room) => `(tactic| ktr_room)
local macro_rules | `(tactic| walk_at "getMethod bytes") => `(tactic| (k_here; (with_reducible show wpAny _ _ (getMethod (Value.bytes _ _) (PySem.Str.ofString "translate") _) _ _ _); refine getm_translate ?_))
local macro_rules | `(tactic| walk_at "getMethod type:bytes") => `(tactic| (k_here; refine' method_type ?F ?X ?m (by decide +kernel) ?e ?h ?_; (case F => k_asm); (case X => k_asm); (case m => exact meta_bytes); (case e => k_dflt k_is); (case h => k_handed)))
local macro_rules | `(tactic| walk_at "call builtin:bytes.maketrans") => `(tactic| refine call_maketrans ?_)
theorem con_b64 (w : World) (b : Array UInt8) (t : Tok) (c1 c2 : UInt8) (t2 : Tok) (hl : b.size ≤ 100) : Con w 58 3 [.bytes b t, .bytes #[c1, c2] t2] (fun _ => True)
    (fun r tl => tl = [] ∧ ∃ t', r = .bytes ((figs (KBw.bInts b)).map fun k => trs c1 c2 (codeE k)).toArray t') := by
  w_top off
  unfold Con
  intro mean mg mb dp un gd cn cs a ccd cl outer A₀ base h₀ L m news s Q E B F X N T hk hdp hun hpre hret
  (revert X; k_fill; intro X)
  refine wpAny_call ?_
  k_dflt (refine' code_def ?k1 ?k2 ?k3 ?k4 ?k5 ?kA ?kF ?kK ?k6 ?k7 ?k8 ?k9 ?kB ?_ ?c2 ?c3 ?c4 ?c5; (case kA => exact rfl); (case kF => exact rfl); (case kK => assumption); (case k1 => k_asm); (case k2 => k_asm); (case k3 => k_asm); (case k4 => k_asm); (case k5 => k_asm); (case k6 => k_is); (case k7 => k_is); (case k8 => ktr_room); (case k9 => first | exact BindsTo.of_eq rfl | exact binds_K (by k_in) rfl (by k_is) rfl rfl rfl); (case c5 => decide); (case kB => exact locs rfl); (case c2 => exact rfl); (case c3 => exact rfl); (case c4 => exact rfl); k_whole; intro g' L' h' FG' F' N' B' X' T'; (try dsimp only); (try k_fold))
  repeat' ((fail_if_success with_reducible show wpAny _ _ (call (Value.ref 50) _ _) _ _ _); first | (k_unfold; (try dsimp only)) | (k_end; wrow_close) | walk1 | (dsimp only; walk1))
  k_dflt (refine' conk_use (con_b2a w b t hl) ?k1 ?k2 ?k3 ?k4 ?k5 ?k6 ?k7 ?k8 ?k9 ?_; (case k1 => k_asm); (case k2 => k_asm); (case k3 => k_asm); (case k4 => k_asm); (case k5 => k_asm); (case k6 => exact rfl); (case k7 => ktr_room); (case k8 => ktr_units); (case k9 => trivial))
  rintro r tl h9 tk9 F9 N9 ⟨rfl, t9, rfl⟩
  rw [List.nil_append] at N9
  k_steps
  · refine call_translate (trTab_size _ _) ?_ ?_
    · have h1 := figs_len (KBw.bInts b)
      rw [KBw.ints_length] at h1
      rw [List.size_toArray, List.length_map]
      omega
    · intro t8 k8
      have e : (((figs (KBw.bInts b)).map codeE).toArray.map fun c => (trTab c1 c2).getD c.toNat c) = ((figs (KBw.bInts b)).map fun k => trs c1 c2 (codeE k)).toArray := by
        simp only [trTab_get, List.map_toArray, List.map_map]
        rfl
      rw [e]
      k_steps
      exact hret _ [] _ _ (by assumption) (by assumption) ⟨rfl, _, rfl⟩
  · exfalso
    rename _ ≠ (2 : Int) => h2
    exact h2 rfl
end Mine
namespace Mine
open LCg LCt
section
variable {prog : Program} {w : World} {A : Around} {h₀ : Heap} {L : Addr} {m : Str → Option Value} {env : Env} {ct elt : Expr} {x : Str} {scope : Scope} {cl : List (Str × Addr)} {s : Shared} {S : List (Addr × Obj) → Prop} {P : Nat → Value → Prop} {Fin : List Value → List (Addr × Obj) → Prop} {news : List (Addr × Obj)}
/-- a comprehension of ints with a test, over ints, whose turns leave the ledger as it was -/
theorem compT {n : Nat} {ks : List Int} (p : Int → Bool) (R : Int → Value → Prop) (hks : ks.length = n) (hP : ∀ i v, i < n → P i v → ∃ k t, ks[i]? = some k ∧ v = .int k t)
    (turn : ∀ k t I oI C oC D m₂ ys h tk (E' : Value → Shared → Prop), k ∈ ks → NsObj oC m₂ → m₂ x = some (.int k t) → Fr h₀ L h m → News h₀ L h ((I, oI) :: (C, oC) :: (D, lst ys) :: news) → Off3 I C D news → ((@Ne Nat I C) ∧ (@Ne Nat I D) ∧ (@Ne Nat C D)) →
      wpAny (model prog w) A (isTrue ct (compEnvC scope cl C env) (eval ct (compEnvC scope cl C env))) (fun ok s' => if ok = true then
        wpAny (model prog w) A (eval elt (compEnvC scope cl C env)) (CompEnd h₀ L m { s with heap := h, toks := tk } I oI C oC D (lst ys) S (fun y news' => news' = news ∧ p k = true ∧ R k y)) E' s'
        else CompEnd h₀ L m { s with heap := h, toks := tk } I oI C oC D (lst ys) S (fun _ news' => news' = news ∧ p k = false) Value.none s') E' { s with heap := h, toks := tk })
    (Rel : List Int → List Value → Prop) (r0 : Rel [] []) (r1 : ∀ l ys k y, Rel l ys → R k y → Rel (l ++ [k]) (ys ++ [y]))
    (fin : ∀ ys, Rel (ks.filter p) ys → Fin ys news) : CompRestT prog w A h₀ L m env ct elt x scope cl s S P Fin n 0 [] news := by
  have key : ∀ (j i : Nat) (ys : List Value), i + j = n → Rel ((ks.take i).filter p) ys → CompRestT prog w A h₀ L m env ct elt x scope cl s S P Fin j i ys news := by
    intro j
    induction j with
    | zero =>
      intro i ys hi hy
      have e : i = ks.length := by omega
      subst e
      rw [List.take_length] at hy
      exact CompRestT.zero (fin ys hy)
    | succ j ih =>
      intro i ys hi hy
      refine CompRestT.succ ?_
      intro v I oI C oC D m₂ h tk E' hv hC hx F N off ne
      obtain ⟨k, t, hk, hv'⟩ := hP i v (by omega) hv
      rw [hv'] at hx
      refine wpAny_mono (turn k t I oI C oC D m₂ ys h tk E' (List.mem_of_getElem? hk) hC hx F N off ne) (fun ok s' hok => ?_) fun _ _ e => e
      cases ok with
      | true =>
        simp only [if_true] at hok ⊢
        refine wpAny_mono hok (fun y s₂ hq => ?_) fun _ _ e => e
        obtain ⟨h', tk', nw, e, F', N', off', hS, hn, hp, hR⟩ := hq
        subst hn
        refine ⟨h', tk', _, e, F', N', off', hS, ?_⟩
        refine ih (i + 1) _ (by omega) ?_
        rw [List.take_add_one, hk, Option.toList_some, List.filter_append, List.filter_cons, hp]
        exact r1 _ _ _ _ hy hR
      | false =>
        simp only [Bool.false_eq_true, if_false] at hok ⊢
        obtain ⟨h', tk', nw, e, F', N', off', hS, hn, hp⟩ := hok
        subst hn
        refine ⟨h', tk', _, e, F', N', off', hS, ?_⟩
        refine ih (i + 1) _ (by omega) ?_
        rw [List.take_add_one, hk, Option.toList_some, List.filter_append, List.filter_cons, hp]
        simpa using hy
  exact key n 0 [] (by omega) (by simpa using r0)
theorem rangeP {n : Nat} {a : Int} : ∀ (i : Nat) (v : Value), i < n → (∃ t, v = Value.int (a + (i : Int)) t) → ∃ k t, (rangeKs a n)[i]? = some k ∧ v = .int k t := by
  rintro i v hi ⟨t, rfl⟩
  exact ⟨a + (i : Int), t, by simp [rangeKs, hi], rfl⟩
theorem listP {vs : List Value} {ns : List Int} (hI : IntsAre vs ns) : ∀ (i : Nat) (v : Value), i < vs.toArray.size → vs.toArray[i]? = some v → ∃ k t, ns[i]? = some k ∧ v = .int k t := by
  intro i v _ hv
  obtain ⟨k, t, e, hk⟩ := IntsAre.at hI i v (by simpa using hv)
  exact ⟨k, t, hk, e⟩
/-- ints themselves -/
theorem compT_ints {n : Nat} {ks : List Int} (p : Int → Bool) (hks : ks.length = n) (hP : ∀ i v, i < n → P i v → ∃ k t, ks[i]? = some k ∧ v = .int k t)
    (turn : ∀ k t I oI C oC D m₂ ys h tk (E' : Value → Shared → Prop), k ∈ ks → NsObj oC m₂ → m₂ x = some (.int k t) → Fr h₀ L h m → News h₀ L h ((I, oI) :: (C, oC) :: (D, lst ys) :: news) → Off3 I C D news → ((@Ne Nat I C) ∧ (@Ne Nat I D) ∧ (@Ne Nat C D)) →
      wpAny (model prog w) A (isTrue ct (compEnvC scope cl C env) (eval ct (compEnvC scope cl C env))) (fun ok s' => if ok = true then
        wpAny (model prog w) A (eval elt (compEnvC scope cl C env)) (CompEnd h₀ L m { s with heap := h, toks := tk } I oI C oC D (lst ys) S (fun y news' => news' = news ∧ p k = true ∧ ∃ t, y = .int k t)) E' s'
        else CompEnd h₀ L m { s with heap := h, toks := tk } I oI C oC D (lst ys) S (fun _ news' => news' = news ∧ p k = false) Value.none s') E' { s with heap := h, toks := tk })
    (fin : ∀ ys, IntsAre ys (ks.filter p) → Fin ys news) : CompRestT prog w A h₀ L m env ct elt x scope cl s S P Fin n 0 [] news :=
  compT p (fun k y => ∃ t, y = .int k t) hks hP turn (fun l ys => IntsAre ys l) .nil (fun l ys k y h ⟨t, e⟩ => by subst e; exact h.append (.cons _ _ .nil)) fin
/-- texts -/
theorem compT_strs {n : Nat} {ks : List Int} (p : Int → Bool) (g : Int → Str) (hks : ks.length = n) (hP : ∀ i v, i < n → P i v → ∃ k t, ks[i]? = some k ∧ v = .int k t)
    (turn : ∀ k t I oI C oC D m₂ ys h tk (E' : Value → Shared → Prop), k ∈ ks → NsObj oC m₂ → m₂ x = some (.int k t) → Fr h₀ L h m → News h₀ L h ((I, oI) :: (C, oC) :: (D, lst ys) :: news) → Off3 I C D news → ((@Ne Nat I C) ∧ (@Ne Nat I D) ∧ (@Ne Nat C D)) →
      wpAny (model prog w) A (isTrue ct (compEnvC scope cl C env) (eval ct (compEnvC scope cl C env))) (fun ok s' => if ok = true then
        wpAny (model prog w) A (eval elt (compEnvC scope cl C env)) (CompEnd h₀ L m { s with heap := h, toks := tk } I oI C oC D (lst ys) S (fun y news' => news' = news ∧ p k = true ∧ ∃ t, y = .str (g k) t)) E' s'
        else CompEnd h₀ L m { s with heap := h, toks := tk } I oI C oC D (lst ys) S (fun _ news' => news' = news ∧ p k = false) Value.none s') E' { s with heap := h, toks := tk })
    (fin : ∀ ys, StrsAre ys ((ks.filter p).map g) → Fin ys news) : CompRestT prog w A h₀ L m env ct elt x scope cl s S P Fin n 0 [] news :=
  compT p (fun k y => ∃ t, y = .str (g k) t) hks hP turn (fun l ys => StrsAre ys (l.map g)) .nil (fun l ys k y h ⟨t, e⟩ => by subst e; rw [List.map_append]; exact kct_snoc h) fin
end
end Mine
namespace Mine
section
variable {prog : Program} {w : World} {A : Around} {E : Value → Shared → Prop} {s : Shared} {h₀ : Heap} {L : Addr} {m : Str → Option Value} {news : List (Addr × Obj)} {value slice : PySem.Expr} {Q : Value → Shared → Prop}
theorem addL {a b : Addr} {vs ws : List Value} {c d : Nat} (F : Fr h₀ L s.heap m) (N : News h₀ L s.heap news) (ha : (a, W.listOf vs.toArray c) ∈ news) (hb : (b, W.listOf ws.toArray d) ∈ news)
    (hz : vs.length + ws.length ≤ 1000000) (h : ∀ D h', Fr h₀ L h' m → News h₀ L h' ((D, W.listOf (vs ++ ws).toArray 0) :: news) → (∀ p ∈ news, p.1 < D) → Q (.ref D) { s with heap := h' }) :
    wpAny (model prog w) A (binaryOp .Add (.ref a) (.ref b)) Q E s :=
  kmk_add_lit F N (News.isList N ha) (News.isList N hb) rfl h (by rw [sizeLine_eq]; simp only [Array.length_toList, List.size_toArray]; omega)
theorem pick_last (us : List Value) (v : Value) : kms_pick (us ++ [v]) none (some (-1)) = us := by
  unfold kms_pick kms_lo kms_hi
  simp
theorem cutLast {D : Addr} {us : List Value} {v : Value} {c : Nat} {tk : Tok} (F : Fr h₀ L s.heap m) (N : News h₀ L s.heap news) (hm : (D, W.listOf (us ++ [v]).toArray c) ∈ news) (hz : us.length ≤ 1000000)
    (h : ∀ D' h', Fr h₀ L h' m → News h₀ L h' ((D', W.listOf us.toArray 0) :: news) → (∀ p ∈ news, p.1 < D') → Q (.ref D') { s with heap := h' })
    (hs : subscripted slice false (.ref D) (.ref s.heap.objs.size) = operate [.ref s.heap.objs.size, .ref D] (getItem (.ref D) (.ref s.heap.objs.size)) := by with_unfolding_all rfl) (ht : ∀ r, letTemporaryGo value (.ref D) r = pure () := by intro _; with_unfolding_all rfl) :
    wpAny (model prog w) A (subscriptTail value slice (.ref D) (.ref s.heap.objs.size)) Q E { s with heap := s.heap.push { cls := .type "slice", data := .fields #[.none, .int (-1) tk, .none] } } :=
  kms_slice_lit F N (News.isList N hm) .none (.int _ _) (pick_last us v) h hs ht (by rw [sizeLine_eq, List.size_toArray, List.length_append, List.length_singleton]; omega)
theorem itemLast {D : Addr} {us : List Value} {v : Value} {c : Nat} {tk : Tok} (N : News h₀ L s.heap news) (hm : (D, W.listOf (us ++ [v]).toArray c) ∈ news) (h : Q v s)
    (hs : subscripted slice false (.ref D) (.int (-1) tk) = operate [.ref D, .int (-1) tk] (getItem (.ref D) (.int (-1) tk)) := by with_unfolding_all rfl) (ht : ∀ r, letTemporaryGo value (.ref D) r = pure () := by intro _; with_unfolding_all rfl) :
    wpAny (model prog w) A (subscriptTail value slice (.ref D) (.int (-1) tk)) Q E s := by
  have hl := News.isList N hm
  refine subscriptTail_builtin hl.typeIs slot_list_getitem.lookup (wpAny_getItem_list_neg (x := v) hl (by decide) ?_ (by decide) ?_ h) hs ht
  · simp only [List.size_toArray, List.length_append, List.length_singleton]; omega
  · have e : (-1 + (((us ++ [v]).toArray.size : Nat) : Int)).toNat = us.length := by simp only [List.size_toArray, List.length_append, List.length_singleton]; omega
    rw [e]; simp
theorem strsGet : ∀ {vs : List Value} {ls : List Str}, StrsAre vs ls → ∀ (i : Nat), i < ls.length → ∃ t, vs[i]? = some (.str (ls.getD i (S [])) t)
  | _, _, .nil, i, h => by simp at h
  | _, _, .cons y t r, 0, _ => ⟨t, rfl⟩
  | _, _, .cons y t r, i + 1, h => by
    obtain ⟨u, hu⟩ := strsGet r i (by simpa using h)
    exact ⟨u, by simpa using hu⟩
theorem itemStr {D : Addr} {vs : List Value} {ls : List Str} {c : Nat} {k : Int} {tk : Tok} (N : News h₀ L s.heap news) (hm : (D, W.listOf vs.toArray c) ∈ news) (hvs : StrsAre vs ls) (h0 : 0 ≤ k) (h1 : k < (ls.length : Int)) (hn : ls.length ≤ 1000000)
    (h : ∀ t, Q (.str (ls.getD k.toNat (S [])) t) s)
    (hs : subscripted slice false (.ref D) (.int k tk) = operate [.ref D, .int k tk] (getItem (.ref D) (.int k tk)) := by with_unfolding_all rfl) (ht : ∀ r, letTemporaryGo value (.ref D) r = pure () := by intro _; with_unfolding_all rfl) :
    wpAny (model prog w) A (subscriptTail value slice (.ref D) (.int k tk)) Q E s := by
  obtain ⟨t, e⟩ := strsGet hvs k.toNat (by omega)
  exact item_list (News.isList N hm) h0 (by omega) (by simpa using e) (h t) hs ht
theorem strsValues : ∀ {vs : List Value} {ls : List Str}, StrsAre vs ls → ∃ l : List (Str × Tok), vs = strValues l ∧ l.map (·.1) = ls
  | _, _, .nil => ⟨[], rfl, rfl⟩
  | _, _, .cons y t r => by
    obtain ⟨l, e1, e2⟩ := strsValues r
    exact ⟨(y, t) :: l, by rw [e1]; rfl, by rw [← e2]; rfl⟩
theorem strsDrop : ∀ {vs : List Value} {ls : List Str}, StrsAre vs ls → ∀ n : Nat, StrsAre (vs.drop n) (ls.drop n)
  | _, _, .nil, n => by simp only [List.drop_nil]; exact .nil
  | _, _, .cons y t r, 0 => .cons y t r
  | _, _, .cons y t r, n + 1 => by simp only [List.drop_succ_cons]; exact strsDrop r n
theorem pick_from (vs : List Value) {k : Int} (h0 : 0 ≤ k) (h1 : k ≤ (vs.length : Int)) : kms_pick vs (some k) none = vs.drop k.toNat := by
  unfold kms_pick kms_lo kms_hi
  simp only [show ¬ (k < 0) by omega, if_false]
  rw [Nat.min_eq_left (by omega), List.take_of_length_le (by rw [List.length_drop]; omega)]
theorem cutFrom {D : Addr} {vs : List Value} {c : Nat} {k : Int} {tk : Tok} (F : Fr h₀ L s.heap m) (N : News h₀ L s.heap news) (hm : (D, W.listOf vs.toArray c) ∈ news) (h0 : 0 ≤ k) (h1 : k ≤ (vs.length : Int)) (hz : vs.length ≤ 1000000)
    (h : ∀ D' h', Fr h₀ L h' m → News h₀ L h' ((D', W.listOf (vs.drop k.toNat).toArray 0) :: news) → (∀ p ∈ news, p.1 < D') → Q (.ref D') { s with heap := h' })
    (hs : subscripted slice false (.ref D) (.ref s.heap.objs.size) = operate [.ref s.heap.objs.size, .ref D] (getItem (.ref D) (.ref s.heap.objs.size)) := by with_unfolding_all rfl) (ht : ∀ r, letTemporaryGo value (.ref D) r = pure () := by intro _; with_unfolding_all rfl) :
    wpAny (model prog w) A (subscriptTail value slice (.ref D) (.ref s.heap.objs.size)) Q E { s with heap := s.heap.push { cls := .type "slice", data := .fields #[.int k tk, .none, .none] } } :=
  kms_slice_lit F N (News.isList N hm) (.int _ _) .none (pick_from vs h0 h1) h hs ht (by rw [sizeLine_eq, List.size_toArray]; omega)
theorem joinStrs {D : Addr} {vs : List Value} {ls : List Str} {c : Nat} {sep : Str} {tk : Tok} (N : News h₀ L s.heap news) (hm : (D, W.listOf vs.toArray c) ∈ news) (hvs : StrsAre vs ls) (hok : JoinOk sep ls = true)
    (h : ∀ t' k, Q (.str (Txt.join sep ls) t') { s with toks := k }) : wpAny (model prog w) A (call (.builtin "str.join") [.str sep tk, .ref D]) Q E s := by
  obtain ⟨l, e1, e2⟩ := strsValues hvs
  have hl := News.isList N hm
  rw [e1] at hl
  exact SC.join hl e2 hok h
end
theorem sumLen_le' {B : Nat} : ∀ {ys : List Str}, (∀ a ∈ ys, a.length ≤ B) → (ys.map (·.length)).sum ≤ ys.length * B
  | [], _ => by simp
  | a :: r, h => by
    have h1 := h a (.head _)
    have h2 := sumLen_le' (ys := r) fun b hb => h b (.tail _ hb)
    simp only [List.map_cons, List.sum_cons, List.length_cons, Nat.add_mul, Nat.one_mul]
    omega
end Mine
namespace Mine
theorem mem_filter_l {α : Type} {p : α → Bool} {l : List α} {a : α} (h : a ∈ l.filter p) : a ∈ l := (List.mem_filter.mp h).1
def wsl : List Str := [Str.ofString " ", Str.ofString "\t", Str.ofString "\n"]
def isFull (x : Str) (k : Int) : Bool := !(wsl.any fun y => y == Txt.item x k)
theorem isFull_f {x : Str} {k : Int} (h : ([Str.ofString " ", Str.ofString "\t", Str.ofString "\n"].any fun y => y == Txt.item x k) = true) : isFull x k = false := by
  unfold isFull wsl; rw [h]; rfl
theorem isFull_t {x : Str} {k : Int} (h : ([Str.ofString " ", Str.ofString "\t", Str.ofString "\n"].any fun y => y == Txt.item x k) = false) : isFull x k = true := by
  unfold isFull wsl; rw [h]; rfl
theorem range1_size (n : Nat) : Builtin.Range.rangeSize 0 (n : Int) 1 = (n : Int) := by
  unfold Builtin.Range.rangeSize
  simp only [show (1 : Int) > 0 by decide, if_true]
  split <;> omega
theorem range1_small (n : Nat) (h : n ≤ 1000) : Builtin.Range.small 0 (n : Int) 1 = true := by
  unfold Builtin.Range.small Builtin.Range.rangeFitsLong
  rw [range1_size]
  simp only [Bool.and_eq_true, Bool.or_eq_true, decide_eq_true_eq, show (1 : Int) > 0 by decide, if_true]
  refine ⟨⟨⟨⟨⟨?_, ?_⟩, ⟨?_, ?_⟩⟩, ⟨?_, ?_⟩⟩, ⟨?_, ?_⟩⟩, .inr ⟨?_, ?_⟩⟩ <;> omega
def fullL (x : Str) : List Int := (rangeKs 0 x.length).filter (isFull x)
def core (x : Str) : Str := Txt.slice x (some ((fullL x).getD (Int.toNat 0) 0)) (some ((fullL x).getD (-1 + ((fullL x).length : Nat) : Int).toNat 0 + 1))
theorem slice_mem {x : Str} {l u : Option Int} {c : Nat} (h : c ∈ (Txt.slice x l u).cps.toList) : c ∈ x.cps.toList := by
  unfold Txt.slice at h
  split at h
  · exact h
  · simp only [List.mem_filterMap] at h
    obtain ⟨i, _, hi⟩ := h
    rw [← Array.getElem?_toList] at hi
    exact List.mem_of_getElem? hi
theorem slice_asc {x : Str} {l u : Option Int} (h : x.cps.all (· < 128) = true) : (Txt.slice x l u).cps.all (· < 128) = true := by
  rw [← Array.all_toList] at h ⊢
  rw [List.all_eq_true] at h ⊢
  exact fun c hc => h c (slice_mem hc)
def lstep (p : List (List Nat) × List Nat) (c : Nat) : List (List Nat) × List Nat := if c = 10 then (p.1 ++ [p.2], []) else (p.1, p.2 ++ [c])
def lfold (l : List Nat) : List (List Nat) × List Nat := l.foldl lstep ([], [])
theorem lfold_snoc (l : List Nat) (c : Nat) : lfold (l ++ [c]) = lstep (lfold l) c := by simp [lfold]
theorem lfold_len_aux : ∀ (l : List Nat) (p : List (List Nat) × List Nat), (l.foldl lstep p).1.length + (l.foldl lstep p).2.length ≤ p.1.length + p.2.length + l.length
  | [], p => by simp
  | c :: r, p => by
    have ih := lfold_len_aux r (lstep p c)
    have e : (lstep p c).1.length + (lstep p c).2.length ≤ p.1.length + p.2.length + 1 := by
      unfold lstep
      split <;> simp <;> omega
    rw [List.foldl_cons, List.length_cons]
    omega
theorem lfold_len (l : List Nat) : (lfold l).1.length + (lfold l).2.length ≤ l.length := by
  have := lfold_len_aux l ([], [])
  simpa [lfold] using this
theorem nl_yes {c : Nat} (h : (({ cps := #[c] } : Str) == Str.ofString "\n") = true) : c = 10 := by
  rw [nl_eq] at h
  have h' : S [c] = S [10] := beq_iff_eq.mp h
  simpa using S_inj h'
theorem nl_no {c : Nat} (h : (({ cps := #[c] } : Str) == Str.ofString "\n") = false) : c ≠ 10 := by
  rintro rfl
  rw [nl_eq] at h
  have : (S [10] == S [10]) = true := beq_self_eq_true _
  rw [show (({ cps := #[10] } : Str) == S [10]) = (S [10] == S [10]) from rfl, this] at h
  cases h
theorem S_snoc (l : List Nat) (c : Nat) : S l ++ ({ cps := #[c] } : Str) = S (l ++ [c]) := by
  show (⟨l.toArray ++ #[c]⟩ : Str) = _
  simp [S]
def linesS (x : Str) : List Str := ((lfold (core x).cps.toList).1 ++ [(lfold (core x).cps.toList).2]).map S
theorem lfold_all_aux : ∀ (l : List Nat) (p : List (List Nat) × List Nat) (B : Nat), (∀ y ∈ p.1, y.length ≤ B) → p.2.length + l.length ≤ B → ∀ y ∈ (l.foldl lstep p).1, y.length ≤ B
  | [], _, _, h, _ => h
  | c :: r, p, B, h, h2 => by
    rw [List.foldl_cons]
    rw [List.length_cons] at h2
    refine lfold_all_aux r (lstep p c) B ?_ ?_
    · unfold lstep
      split
      · intro y hy
        rcases List.mem_append.mp hy with hy | hy
        · exact h y hy
        · rw [List.mem_singleton.mp hy]; omega
      · exact h
    · unfold lstep
      split
      · simp; omega
      · simp; omega
theorem lfold_all (l : List Nat) : ∀ y ∈ (lfold l).1, y.length ≤ l.length := lfold_all_aux l ([], []) l.length (by simp) (by simp)
theorem linesS_mem {x : Str} (h : (core x).cps.toList.length ≤ 100) : ∀ y ∈ linesS x, y.length ≤ 100 := by
  intro y hy
  unfold linesS at hy
  obtain ⟨l, hl, rfl⟩ := List.mem_map.mp hy
  rw [S_len]
  have h2 := lfold_len (core x).cps.toList
  rcases List.mem_append.mp hl with hl | hl
  · exact Nat.le_trans (lfold_all _ l hl) h
  · rw [List.mem_singleton.mp hl]; omega
theorem linesS_get {x : Str} (h : (core x).cps.toList.length ≤ 100) (i : Nat) : ((linesS x).getD i (S [])).length ≤ 16777216 := by
  by_cases hi : i < (linesS x).length
  · have e : (linesS x).getD i (S []) = (linesS x)[i] := by simp [List.getD, hi]
    rw [e]
    have := linesS_mem h _ (List.getElem_mem hi)
    omega
  · have e : (linesS x).getD i (S []) = S [] := by simp [List.getD, Nat.not_lt.mp hi]
    rw [e]; decide
def isFilled (x : Str) (k : Int) : Bool := !(bare ((linesS x).getD k.toNat (S [])) == Str.ofString "")
def filledL (x : Str) : List Int := (rangeKs 0 (linesS x).length).filter (isFilled x)
def isLead (x : Str) (k : Int) : Bool := ((rangeKs 0 (linesS x).length).filter (isFilled x)).any fun y => y == k + 1
def firstI (x : Str) : Int := ((((rangeKs 0 (linesS x).length).filter (isFilled x)).filter (isLead x)) ++ [((linesS x).length : Int)]).getD (Int.toNat 0) 0
theorem firstI_bounds (x : Str) : 0 ≤ firstI x ∧ firstI x ≤ ((linesS x).length : Int) := by
  unfold firstI
  generalize hl : (((rangeKs 0 (linesS x).length).filter (isFilled x)).filter (isLead x)) = l
  cases l with
  | nil => simp
  | cons k r =>
    have hk : k ∈ (((rangeKs 0 (linesS x).length).filter (isFilled x)).filter (isLead x)) := by rw [hl]; exact .head _
    have h1 := mem_rangeKs (mem_filter_l (mem_filter_l hk))
    show 0 ≤ k ∧ k ≤ _
    omega
def lineAt (x : Str) (k : Int) : Str := bare ((linesS x).getD k.toNat (S []))
def peeledF (x : Str) : List Str × Str :=
  if (rangeKs 0 x.length).filter (isFull x) = [] then ([], S [])
  else ((((rangeKs 0 (linesS x).length).filter (isFilled x)).filter fun k => decide (k < firstI x)).map (lineAt x), bare (Txt.join (Str.ofString "\n") ((linesS x).drop (firstI x).toNat)))
theorem joinOk_l {ls : List Str} (h : ∀ a ∈ ls, a.length ≤ 100) (hl : ls.length ≤ 101) : JoinOk (Str.ofString "\n") ls = true := by
  refine joinOk_of ?_
  have h1 := sumLen_le' h
  have h2 : (Str.ofString "\n").length = 1 := by decide +kernel
  rw [h2]
  have h3 : ls.length * 100 ≤ 101 * 100 := Nat.mul_le_mul hl (Nat.le_refl _)
  omega
end Mine
namespace Mine
local macro_rules | `(tactic| k_room) => `(tactic| ktr_room)
local macro_rules | `(tactic| units_room) => `(tactic| ktr_units)
theorem neAll {news : List (Addr × Obj)} {L d : Nat} (h : ∀ p ∈ news, @LT.lt Nat _ p.1 L) (hd : @LE.le Nat _ L d) : ∀ p ∈ news, p.1 ≠ d := fun p hp e => absurd (Nat.lt_of_lt_of_le (h p hp) hd) (by rw [e]; exact Nat.lt_irrefl _)
local macro_rules | `(tactic| k_all) => `(tactic| exact neAll (by assumption) (by omega))
theorem close_peeled {x : Str} {s : Shared} {Q : Value → Shared → Prop} {h₀ h' : Heap} {L D1 D2 : Addr} {m : Str → Option Value} {news all : List (Addr × Obj)} {us : List Value} {ts : List Str} {r : Str} {c1 c2 tk : Nat} {tr : Tok}
    (hret : ∀ r tl h' tk', Fr h₀ L h' m → News h₀ L h' (tl ++ news) → (∃ D1 c1 D2 us c2 tr, r = .ref D1 ∧ tl = [(D1, W.listOf #[.ref D2, .str (peeledF x).2 tr] c1), (D2, W.listOf us.toArray c2)] ∧ StrsAre us (peeledF x).1) → Q r { s with heap := h', toks := tk' })
    (e : peeledF x = (ts, r)) (hus : StrsAre us ts) (F : Fr h₀ L h' m) (N : News h₀ L h' all) (h1 : (D1, W.listOf #[.ref D2, .str r tr] c1) ∈ all) (h2 : (D2, W.listOf us.toArray c2) ∈ all) (h3 : ∀ p ∈ news, p ∈ all) : Q (.ref D1) { s with heap := h', toks := tk } :=
  hret (.ref D1) [(D1, _), (D2, _)] h' tk F (fun p hp => by
    rcases List.mem_cons.mp hp with rfl | hp
    · exact N _ h1
    · rcases List.mem_cons.mp hp with rfl | hp
      · exact N _ h2
      · exact N _ (h3 p hp)) ⟨D1, c1, D2, us, c2, tr, rfl, by rw [e], by rw [e]; exact hus⟩
theorem con_peeled (w : World) (x : Str) (t : Tok) (hx : x.length ≤ 100) (hasc : x.cps.all (· < 128) = true) : Con w 77 12 [.str x t] (fun _ => True)
    (fun r tl => ∃ D1 c1 D2 us c2 tr, r = .ref D1 ∧ tl = [(D1, W.listOf #[.ref D2, .str (peeledF x).2 tr] c1), (D2, W.listOf us.toArray c2)] ∧ StrsAre us (peeledF x).1) := by
  w_top off
  unfold Con
  intro mean mg mb dp un gd cn cs a ccd cl outer A₀ base h₀ L m news s Q E B F X N T hk hdp hun hpre hret
  (revert X; k_fill; intro X)
  refine wpAny_call ?_
  k_dflt (refine' code_defC ?k1 ?k2 ?k3 ?k4 ?k5 ?kA ?kF ?kK ?k6 ?k7 ?k8 ?k9 ?kB ?kD ?_ ?c2 ?c3 ?c4; (case kA => exact rfl); (case kF => exact rfl); (case kK => assumption); (case k1 => k_asm); (case k2 => k_asm); (case k3 => k_asm); (case k4 => k_asm); (case k5 => k_asm); (case k6 => k_is); (case k7 => k_is); (case k8 => ktr_room); (case k9 => first | exact BindsTo.of_eq rfl | exact binds_K (by k_in) rfl (by k_is) rfl rfl rfl); (case kB => exact rfl); (case kD => decide +kernel); (case c2 => exact rfl); (case c3 => exact rfl); (case c4 => exact rfl); k_whole; intro g' L' h' tk' cells' FG' F' N' Y' B' X' T' l1; have hl0 := l1; (try k_lt l1); have hY := CellsAre.four Y'; obtain ⟨oc4, oc3, oc2, oc1, hE', d4', d3', d2', d1'⟩ := hY; subst hE'; clear Y'; (try simp only [List.cons_append, List.nil_append] at N'); (try dsimp only); (try k_fold))
  repeat' ((fail_if_success with_reducible show wpAny _ _ (exec (Stmt.Assign _ (Expr.ListComp _ _ _ _) _) _) _ _ _); first | (k_unfold; (try dsimp only)) | (k_end; wrow_close) | walk1 | (dsimp only; walk1))
  k_dflt (refine LCt.Assign_ListComp_T (F₀ := by k_asm) (by rfl) (by with_unfolding_all rfl) (by with_unfolding_all rfl) (by decide) (by rfl) (by decide) (by rfl) (by rfl) (by rfl) ?_)
  repeat' ((fail_if_success with_reducible show LCt.CompSrcT _ _ _ _ _ _ _ _ _ _ _ _ _ _ _); first | (k_unfold; (try dsimp only)) | (k_end; wrow_close) | walk1 | (dsimp only; walk1))
  rename IsRange _ _ _ _ _ _ _ _ => hR
  rename Fr _ _ _ _ => F₁
  rename News _ _ _ _ => N₁
  refine LCt.CompSrcT.range (n := x.length) rfl F₁ N₁ hR (range1_small _ (by omega)) (range1_size _) (by rw [sizeLine_eq]; omega) ?_
  intro g9
  refine compT_ints (isFull x) (rangeKs_length _ _) rangeP ?_ ?_
  · clear hR F₁ N₁
    intro k t I oI C oC D m₂ ys h tk E' hk hC hx F₁ N₁ off ne
    have hk1 := mem_rangeKs hk
    clear hk
    have off0 := off
    simp only [LCg.Off3, and_true] at off
    k_steps
    · exact LCg.CompEnd.intro (by assumption) (by assumption) _ (by kcf_all) off0 trivial ⟨rfl, isFull_f (by assumption)⟩
    · exact LCg.CompEnd.intro (by assumption) (by assumption) _ (by kcf_all) off0 trivial ⟨rfl, isFull_t (by assumption), _, rfl⟩
  · clear hR F₁ N₁
    intro ys hys
    intro D₁ h₁ tk₁ F₁ N₁ off₁
    have hyl := hys.length
    have hfl : ((rangeKs 0 x.length).filter (isFull x)).length ≤ 100 := Nat.le_trans (List.length_filter_le _ _) (by rw [rangeKs_length]; exact hx)
    simp only [LCg.Off1, and_true] at off₁
    repeat' ((fail_if_success with_reducible show wpAny _ _ (exec (Stmt.For _ _ _ _ _) _) _ _ _); first | (k_unfold; (try dsimp only)) | (k_end; wrow_close) | walk1 | (dsimp only; walk1))
    · rename decide (_ = ([] : List Int)) = true => hyes
      have epf : peeledF x = ([], Str.ofString "") := by rw [em_eq]; unfold peeledF; rw [if_pos (of_decide_eq_true hyes)]
      exact close_peeled hret epf .nil (by assumption) (by assumption) (by kcf_m) (by kcf_m) (by kcf_all)
    · rename decide (_ = ([] : List Int)) = false => hne
      have hpos := List.length_pos_iff.mpr (of_decide_eq_false hne)
      refine For_invV g' (by rfl) (by rfl) ?_
      repeat' ((fail_if_success with_reducible show wpAny _ _ (pyIter _) _ _ _); first | (k_unfold; (try dsimp only)) | (k_end; wrow_close) | walk1 | (dsimp only; walk1))
      rename Fr _ _ _ _ => F₃
      rename News _ _ _ _ => N₃
      rename _ = Data.cell (some _) => d₃
      rename (Txt.slice x _ _).length ≤ _ => hcl
      rw [em_eq] at N₃
      refine iter_str (y := core x) (fun i _ news₁ => ∃ D c us tz oc, (D, W.listOf (us ++ [.str (S (lfold ((core x).cps.toList.take i)).2) tz]).toArray c) :: (L' + 1 + 1 + 1 + 1, oc4) :: (L' + 1 + 1 + 1, oc3) :: (L' + 1 + 1, oc) :: (L' + 1, oc1) :: news = news₁ ∧
        @LT.lt Nat _ (L' + 1 + 1 + 1 + 1) D ∧ oc.data = .cell (some (.ref D)) ∧ StrsAre us ((lfold ((core x).cps.toList.take i)).1.map S)) rfl (slice_asc hasc) F₃ (newsSub N₃ ?_) ⟨_, 0, [], tk₁, _, rfl, ?_, d₃, .nil⟩ ?_ ?_
      · kcf_all
      · omega
      · clear F₃ N₃ d₃
        rintro i c t I oI m₁ _ h tk hi' hc ⟨D, cc, us, tz, oc, rfl, hDL, hoc, hus⟩ hoff F₃ N₃
        simp only [List.forall_mem_cons] at hoff
        obtain ⟨hoD, ho4, ho3, ho2, ho1, hon⟩ := hoff
        replace ho2 := neN ho2
        have hll := lfold_len ((core x).cps.toList.take i)
        rw [List.length_take] at hll
        have hcl' : (core x).cps.toList.length ≤ 100 := Nat.le_trans hcl hx
        have hnx : lfold ((core x).cps.toList.take (i + 1)) = lstep (lfold ((core x).cps.toList.take i)) c := by
          rw [← lfold_snoc, List.take_add_one, Array.getElem?_toList, hc]; rfl
        rw [hnx]
        generalize lfold ((core x).cps.toList.take i) = pq at hll hus N₃ ⊢
        obtain ⟨pp, qq⟩ := pq
        have hul := hus.length
        rw [List.length_map] at hul
        have hq2 : (S qq).length ≤ 100 := by rw [S_len]; simp only at hll; omega
        simp only at hll hus N₃ hul
        repeat' ((fail_if_success with_reducible show wpAny _ _ (binaryOp _ (Value.ref _) (Value.ref _)) _ _ _); (fail_if_success with_reducible show wpAny _ _ (subscriptTail _ _ (Value.ref _) _) _ _ _); first | (k_unfold; (try dsimp only)) | (k_end; wrow_close) | walk1 | (dsimp only; walk1))
        · rename News _ _ _ _ => N₄
          rename Fr _ _ _ _ => F₄
          refine addL F₄ N₄ (by kcf_m) (by kcf_m) (by simp; omega) ?_
          intro D₅ h₅ F₅ N₅ l₅
          k_lt l₅
          k_steps
          rename News _ _ _ _ => N₉
          rename Fr _ _ _ _ => F₉
          rename _ = Data.cell (some (Value.ref D₅)) => d₉
          have hc10 : c = 10 := nl_yes (by assumption)
          rw [em_eq] at N₉
          have est : lstep (pp, qq) c = (pp ++ [qq], []) := by rw [lstep, if_pos hc10]
          rw [est]
          refine TurnEnd.mk' ((D₅, _) :: (L' + 1 + 1 + 1 + 1, oc4) :: (L' + 1 + 1 + 1, oc3) :: (L' + 1 + 1, _) :: (L' + 1, oc1) :: news) F₉ N₉ (by kcf_all) ?_ ⟨_, _, us ++ [.str (S qq) tz], _, _, rfl, ?_, d₉, ?_⟩
          · simp only [List.forall_mem_cons]
            exact ⟨by k_ne, ho4, ho3, ho2, ho1, hon⟩
          · omega
          · rw [List.map_append]; exact kct_snoc hus
        · rename News _ _ _ _ => N₄
          rename Fr _ _ _ _ => F₄
          refine cutLast F₄ N₄ (by kcf_m) (by omega) ?_
          intro D₅ h₅ F₅ N₅ l₅
          k_lt l₅
          repeat' ((fail_if_success with_reducible show wpAny _ _ (binaryOp _ (Value.ref _) (Value.ref _)) _ _ _); (fail_if_success with_reducible show wpAny _ _ (subscriptTail _ _ (Value.ref _) _) _ _ _); first | (k_unfold; (try dsimp only)) | (k_end; wrow_close) | walk1 | (dsimp only; walk1))
          rename News _ _ _ _ => N₆
          refine itemLast N₆ (by kcf_m) ?_
          repeat' ((fail_if_success with_reducible show wpAny _ _ (binaryOp _ (Value.ref _) (Value.ref _)) _ _ _); (fail_if_success with_reducible show wpAny _ _ (subscriptTail _ _ (Value.ref _) _) _ _ _); first | (k_unfold; (try dsimp only)) | (k_end; wrow_close) | walk1 | (dsimp only; walk1))
          rename News _ _ _ _ => N₇
          rename Fr _ _ _ _ => F₇
          refine addL F₇ N₇ (by kcf_m) (by kcf_m) (by simp; omega) ?_
          intro D₈ h₈ F₈ N₈ l₈
          k_lt l₈
          k_steps
          rename News _ _ _ _ => N₉
          rename Fr _ _ _ _ => F₉
          rename _ = Data.cell (some (Value.ref D₈)) => d₉
          have hc10 : c ≠ 10 := nl_no (by assumption)
          rw [S_snoc] at N₉
          have est : lstep (pp, qq) c = (pp, qq ++ [c]) := by rw [lstep, if_neg hc10]
          rw [est]
          refine TurnEnd.mk' ((D₈, _) :: (L' + 1 + 1 + 1 + 1, oc4) :: (L' + 1 + 1 + 1, oc3) :: (L' + 1 + 1, _) :: (L' + 1, oc1) :: news) F₉ N₉ (by kcf_all) ?_ ⟨_, _, us, _, _, rfl, ?_, d₉, hus⟩
          · simp only [List.forall_mem_cons]
            exact ⟨by k_ne, ho4, ho3, ho2, ho1, hon⟩
          · omega
      · clear F₃ N₃ d₃
        rintro m₁ _ h tk ⟨D, cc, us, tz, oc, rfl, hDL, hoc, hus⟩ F₃ N₃
        rw [List.take_of_length_le (by rw [Array.length_toList]; exact Nat.le_refl _)] at hus N₃
        have hll := lfold_len (core x).cps.toList
        have hcl' : (core x).cps.toList.length ≤ 100 := Nat.le_trans hcl hx
        have hvs : StrsAre (us ++ [.str (S (lfold (core x).cps.toList).2) tz]) (linesS x) := by
          unfold linesS
          rw [List.map_append]; exact kct_snoc hus
        have hvl : (us ++ [Value.str (S (lfold (core x).cps.toList).2) tz]).length ≤ 101 := by
          rw [hvs.length, linesS, List.length_map, List.length_append, List.length_singleton]; omega
        generalize us ++ [Value.str (S (lfold (core x).cps.toList).2) tz] = vs at hvs hvl N₃
        clear hus
        repeat' ((fail_if_success with_reducible show wpAny _ _ (eval (Expr.ListComp _ _ _ _) _) _ _ _); (fail_if_success with_reducible show wpAny _ _ (exec (Stmt.Assign _ (Expr.ListComp _ _ _ _) _) _) _ _ _); first | (k_unfold; (try dsimp only)) | (k_end; wrow_close) | walk1 | (dsimp only; walk1))
        refine wpAny_Assign_Name ?_ (by with_unfolding_all rfl)
        k_dflt (refine LCt.ListComp_T (F₀ := by k_asm) (by with_unfolding_all rfl) (by decide) (by rfl) (by decide) (by rfl) ?_)
        have hvn := hvs.length
        repeat' ((fail_if_success with_reducible show LCt.CompSrcT _ _ _ _ _ _ _ _ _ _ _ _ _ _ _); first | (k_unfold; (try dsimp only)) | (k_end; wrow_close) | walk1 | (dsimp only; walk1))
        rename IsRange _ _ _ _ _ _ _ _ => hR
        rename Fr _ _ _ _ => F₁
        rename News _ _ _ _ => N₁
        refine LCt.CompSrcT.range rfl F₁ N₁ hR (range1_small _ (by first | omega | (rw [List.size_toArray]; omega))) (range1_size _) (by rw [sizeLine_eq]; first | omega | (rw [List.size_toArray]; omega)) ?_
        intro g9
        refine compT_ints (isFilled x) (rangeKs_length _ _) rangeP ?_ ?_
        · clear hR F₁ N₁
          intro k t I oI C oC D₂ m₂ ys h tk E' hk hC hx₂ F₁ N₁ off ne
          have hk1 := mem_rangeKs hk
          clear hk
          have off0 := off
          simp only [LCg.Off3, and_true] at off
          repeat' ((fail_if_success with_reducible show wpAny _ _ (call (Value.ref 72) _ _) _ _ _); (fail_if_success with_reducible show wpAny _ _ (subscriptTail _ _ (Value.ref _) _) _ _ _); first | (k_unfold; (try dsimp only)) | (k_end; wrow_close) | walk1 | (dsimp only; walk1))
          rename News _ _ _ _ => N₄
          have hvn1 : (linesS x).length ≤ 1000000 := by omega
          have hk2 : 0 ≤ k ∧ k < ((linesS x).length : Int) := by omega
          rename StrsAre vs _ => hvs
          refine itemStr (ls := linesS x) N₄ (by kcf_m) hvs hk2.1 hk2.2 hvn1 ?_
          intro t₄
          repeat' ((fail_if_success with_reducible show wpAny _ _ (call (Value.ref 72) _ _) _ _ _); first | (k_unfold; (try dsimp only)) | (k_end; wrow_close) | walk1 | (dsimp only; walk1))
          k_dflt (refine' con_use (con_bare w _ t₄ (linesS_get hcl' k.toNat)) ?k1 ?k2 ?k3 ?k4 ?k5 ?k6 ?k7 ?k8 ?k9 ?_; (case k1 => k_asm); (case k2 => k_asm); (case k3 => k_asm); (case k4 => k_asm); (case k5 => k_asm); (case k6 => exact rfl); (case k7 => ktr_room); (case k8 => ktr_units); (case k9 => trivial))
          rintro r tl h₅ tk₅ F₅ N₅ ⟨rfl, t₅, rfl⟩
          rw [List.nil_append] at N₅
          k_steps
          · exact LCg.CompEnd.intro (by assumption) (by assumption) _ (by kcf_all) off0 trivial ⟨rfl, by assumption, _, rfl⟩
          · exact LCg.CompEnd.intro (by assumption) (by assumption) _ (by kcf_all) off0 trivial ⟨rfl, by assumption⟩
        · clear hR F₁ N₁
          intro ys₄ hys₄
          intro D₄ h₄ tk₄ F₄ N₄ off₄
          have hyl₄ := hys₄.length
          have hfl₄ : ((rangeKs 0 (linesS x).length).filter (isFilled x)).length ≤ 101 := Nat.le_trans (List.length_filter_le _ _) (by rw [rangeKs_length]; omega)
          simp only [LCg.Off1, and_true] at off₄
          repeat' ((fail_if_success with_reducible show wpAny _ _ (eval (Expr.ListComp _ _ _ _) _) _ _ _); first | (k_unfold; (try dsimp only)) | (k_end; wrow_close) | walk1 | (dsimp only; walk1))
          k_dflt (refine LCt.ListComp_T (F₀ := by k_asm) (by with_unfolding_all rfl) (by decide) (by rfl) (by decide) (by rfl) ?_)
          repeat' ((fail_if_success with_reducible show LCt.CompSrcT _ _ _ _ _ _ _ _ _ _ _ _ _ _ _); first | (k_unfold; (try dsimp only)) | (k_end; wrow_close) | walk1 | (dsimp only; walk1))
          rename Fr _ _ _ _ => F₅
          rename News _ _ _ _ => N₅
          rename _ = Data.cell (some (Value.ref D₄)) => d₅
          refine LCt.CompSrcT.ledger rfl F₅ N₅ (ax := D₄) (its := ys₄.toArray) (by kcf_m) (by rw [sizeLine_eq, List.size_toArray]; omega) ?_
          intro g9
          refine compT_ints (isLead x) (by rw [List.size_toArray, hyl₄]) (listP hys₄) ?_ ?_
          · clear F₅ N₅
            intro k t I oI C oC D₆ m₆ ys h tk E' hk hC hx₂ F₁ N₁ off ne
            have off0 := off
            simp only [LCg.Off3, and_true] at off
            k_steps
            · exact LCg.CompEnd.intro (by assumption) (by assumption) _ (by kcf_all) off0 (.inr ⟨_, .head _, rfl, _, rfl⟩) ⟨rfl, by assumption, _, rfl⟩
            · exact LCg.CompEnd.intro (by assumption) (by assumption) _ (by kcf_all) off0 (.inr ⟨_, .head _, rfl, _, rfl⟩) ⟨rfl, by assumption⟩
          · clear F₅ N₅
            intro ys₇ hys₇
            intro D₇ h₇ tk₇ F₇ N₇ off₇
            have hyl₇ := hys₇.length
            have hfl₇ : (((rangeKs 0 (linesS x).length).filter (isFilled x)).filter (isLead x)).length ≤ 101 := Nat.le_trans (List.length_filter_le _ _) hfl₄
            simp only [LCg.Off1, and_true] at off₇
            repeat' ((fail_if_success with_reducible show wpAny _ _ (subscriptTail _ _ (Value.ref _) _) _ _ _); (fail_if_success with_reducible show wpAny _ _ (eval (Expr.ListComp _ _ _ _) _) _ _ _); first | (k_unfold; (try dsimp only)) | (k_end; wrow_close) | walk1 | (dsimp only; walk1))
            rename News _ _ _ _ => N₈
            rename IntsAre _ (_ ++ [_]) => hI₈
            refine item_list_intsR (News.isList N₈ (.head _)) hI₈ (by decide) (by simp only [List.length_append, List.length_singleton]; omega) (by decide) ?_
            intro t₈
            repeat' ((fail_if_success with_reducible show wpAny _ _ (eval (Expr.ListComp _ _ _ _) _) _ _ _); first | (k_unfold; (try dsimp only)) | (k_end; wrow_close) | walk1 | (dsimp only; walk1))
            rename Fr _ _ _ _ => F₉
            rename News _ _ _ _ => N₉
            rename _ = Data.cell (some (Value.int _ _)) => d₉
            change _ = Data.cell (some (Value.int (firstI x) t₈)) at d₉
            have hfb := firstI_bounds x
            k_dflt (refine LCt.ListComp_T (F₀ := by k_asm) (by with_unfolding_all rfl) (by decide) (by rfl) (by decide) (by rfl) ?_)
            repeat' ((fail_if_success with_reducible show LCt.CompSrcT _ _ _ _ _ _ _ _ _ _ _ _ _ _ _); first | (k_unfold; (try dsimp only)) | (k_end; wrow_close) | walk1 | (dsimp only; walk1))
            rename Fr _ _ _ _ => F₅
            rename News _ _ _ _ => N₅
            refine LCt.CompSrcT.ledger rfl F₅ N₅ (ax := D₄) (its := ys₄.toArray) (by kcf_m) (by rw [sizeLine_eq, List.size_toArray]; omega) ?_
            intro g9
            refine compT_strs (fun k => decide (k < firstI x)) (lineAt x) (by rw [List.size_toArray, hyl₄]) (listP hys₄) ?_ ?_
            · clear F₅ N₅
              intro k t I oI C oC D₆ m₆ ys h tk E' hk hC hx₂ F₁ N₁ off ne
              have off0 := off
              have hk1 := mem_rangeKs (mem_filter_l hk)
              have hvn1 : (linesS x).length ≤ 1000000 := by omega
              have hk2 : 0 ≤ k ∧ k < ((linesS x).length : Int) := by omega
              simp only [LCg.Off3, and_true] at off
              repeat' ((fail_if_success with_reducible show wpAny _ _ (call (Value.ref 72) _ _) _ _ _); (fail_if_success with_reducible show wpAny _ _ (subscriptTail _ _ (Value.ref _) _) _ _ _); first | (k_unfold; (try dsimp only)) | (k_end; wrow_close) | walk1 | (dsimp only; walk1))
              · rename News _ _ _ _ => N₄
                rename StrsAre vs _ => hvs
                refine itemStr (ls := linesS x) N₄ (by kcf_m) hvs hk2.1 hk2.2 hvn1 ?_
                intro t₄
                repeat' ((fail_if_success with_reducible show wpAny _ _ (call (Value.ref 72) _ _) _ _ _); first | (k_unfold; (try dsimp only)) | (k_end; wrow_close) | walk1 | (dsimp only; walk1))
                k_dflt (refine' con_use (con_bare w _ t₄ (linesS_get hcl' k.toNat)) ?k1 ?k2 ?k3 ?k4 ?k5 ?k6 ?k7 ?k8 ?k9 ?_; (case k1 => k_asm); (case k2 => k_asm); (case k3 => k_asm); (case k4 => k_asm); (case k5 => k_asm); (case k6 => exact rfl); (case k7 => ktr_room); (case k8 => ktr_units); (case k9 => trivial))
                rintro r tl h₅ tk₅ F₅ N₅ ⟨rfl, t₅, rfl⟩
                rw [List.nil_append] at N₅
                k_steps
                exact LCg.CompEnd.intro (by assumption) (by assumption) _ (by kcf_all) off0 (.inr ⟨_, .tail _ (.tail _ (.tail _ (.head _))), rfl, _, rfl⟩) ⟨rfl, decide_eq_true (by assumption), _, rfl⟩
              · exact LCg.CompEnd.intro (by assumption) (by assumption) _ (by kcf_all) off0 (.inr ⟨_, .tail _ (.tail _ (.tail _ (.head _))), rfl, _, rfl⟩) ⟨rfl, decide_eq_false (by assumption)⟩
            · clear F₅ N₅
              intro ys₁₀ hys₁₀
              intro D₁₀ h₁₀ tk₁₀ F₁₀ N₁₀ off₁₀
              simp only [LCg.Off1, and_true] at off₁₀
              repeat' ((fail_if_success with_reducible show wpAny _ _ (subscriptTail _ _ (Value.ref _) _) _ _ _); first | (k_unfold; (try dsimp only)) | (k_end; wrow_close) | walk1 | (dsimp only; walk1))
              rename StrsAre vs _ => hvs
              refine cutFrom F₁₀ N₁₀ (by kcf_m) hfb.1 (by rw [hvn]; exact hfb.2) (by omega) ?_
              intro D₁₁ h₁₁ F₁₁ N₁₁ l₁₁
              k_lt l₁₁
              have hlm := linesS_mem hcl'
              have hjo : JoinOk (Str.ofString "\n") ((linesS x).drop (firstI x).toNat) = true := joinOk_l (fun a ha => hlm a (List.mem_of_mem_drop ha)) (by rw [List.length_drop]; omega)
              repeat' ((fail_if_success with_reducible show wpAny _ _ (call (Value.builtin "str.join") _ _) _ _ _); first | (k_unfold; (try dsimp only)) | (k_end; wrow_close) | walk1 | (dsimp only; walk1))
              refine joinStrs N₁₁ (.head _) (strsDrop hvs _) hjo ?_
              intro t₁₂ k₁₂
              repeat' ((fail_if_success with_reducible show wpAny _ _ (call (Value.ref 72) _ _) _ _ _); first | (k_unfold; (try dsimp only)) | (k_end; wrow_close) | walk1 | (dsimp only; walk1))
              k_dflt (refine' con_use (con_bare w _ t₁₂ (Nat.le_trans (joinOk_length hjo) (by rw [sizeLine_eq]; exact Nat.le_refl _))) ?k1 ?k2 ?k3 ?k4 ?k5 ?k6 ?k7 ?k8 ?k9 ?_; (case k1 => k_asm); (case k2 => k_asm); (case k3 => k_asm); (case k4 => k_asm); (case k5 => k_asm); (case k6 => exact rfl); (case k7 => ktr_room); (case k8 => ktr_units); (case k9 => trivial))
              rintro r tl h₁₃ tk₁₃ F₁₃ N₁₃ ⟨rfl, t₁₃, rfl⟩
              rw [List.nil_append] at N₁₃
              generalize hrr : bare (Txt.join (Str.ofString "\n") ((linesS x).drop (firstI x).toNat)) = rr
              clear hjo hlm l₁₁ off₁₀ off₇ off₄ hI₈ hys₇ hyl₇ hfl₇ N₁₁ F₁₁ N₁₀ F₁₀ hvn hcl' hll hfl hyl hpos
              k_steps
              have epf : peeledF x = ((((rangeKs 0 (linesS x).length).filter (isFilled x)).filter fun k => decide (k < firstI x)).map (lineAt x), bare (Txt.join (Str.ofString "\n") ((linesS x).drop (firstI x).toNat))) := by
                unfold peeledF; rw [if_neg (of_decide_eq_false hne)]
              rw [hrr] at epf
              exact close_peeled hret epf (by assumption) (by assumption) (by assumption) (by kcf_m) (by kcf_m) (by kcf_all)
end Mine
namespace Mine
open LCg
section
variable {prog : Program} {w : World} {A : Around} {E : Value → Shared → Prop} {s : Shared} {h₀ : Heap} {L : Addr} {m : Str → Option Value} {env : Env}
theorem block_W {elt iter : Expr} {x : Str} {px : Pos} {scope : Scope} {cl : List (Str × Addr)} {pos : Pos} {Q : Value → Shared → Prop} {s₁ : Shared} {o : Obj} {n : Nat} {P : Nat → Value → Prop} {St : Nat → Heap → Prop} {news : List (Addr × Obj)}
    (hcell : ∀ y ∈ scope.names, y.2 ≠ .cell) (hkind : scope.kind = .function) (hx : scope.names.lookup x = some .local)
    (W : Walks prog w A s₁.heap.objs.size [s₁.heap.objs.size] [s₁.heap.objs.size] n P St) (hsz : n ≤ sizeLine) (hIo : ∀ i h, St i h → ∃ o, h.get? s₁.heap.objs.size = some o)
    (hSt : ∀ i (h h' : Heap) (o : Obj), St i h → h.get? s₁.heap.objs.size = some o → h'.get? s₁.heap.objs.size = some o → St i h') (hst : St 0 (s₁.heap.push o))
    (F : Fr h₀ L s₁.heap m) (N : News h₀ L s₁.heap news)
    (R : CompRest prog w A h₀ L m env elt x scope cl { s₁ with heap := s₁.heap.push o } (fun _ => True) P (FinE h₀ L m { s₁ with heap := s₁.heap.push o } Q) n 0 [] news) :
    wpAny (model prog w) A (newList []) (fun acc s₃ => wpAny (model prog w) A (newFunctionEnv scope env.globals cl [] env.qual none .none (some env)) (fun cenv s₄ =>
      codeAny (model prog w) A (.compStart (.ListComp elt [⟨.Name x px, iter, [], 0⟩] scope pos) 0 (.ref s₁.heap.objs.size) acc { cenv with scope := relabel scope env })
        (compPost (model prog w) A E none Q acc cenv.locals) s₄) E s₃) E { s₁ with heap := s₁.heap.push o } := by
  refine block_U (RR := compPost (model prog w) A E none Q) W hsz hIo (fun i h h' o nw st e e' _ _ _ => hSt i h h' o st e e') hcell hkind hx hst (fun b hb => ?_)
    (F.push _) (fun p hp => ⟨Heap.get?_push_of_some _ (N p hp).1, (N p hp).2⟩) (Nat.ne_of_lt F.ns.lt) (next_is_new F) (fun p hp => Nat.ne_of_lt (Heap.lt_size (N p hp).1)) trivial R ?_
  · rw [List.mem_singleton.mp hb]
    show s₁.heap.objs.size < (s₁.heap.push _).objs.size
    rw [Heap.size_push]; exact Nat.lt_succ_self _
  · intro D C h tk m' ys news' F' N' o1 hn hC₀ hD₀ hCL hDL hCD offC fin
    refine ⟨m', hn, fun h'' hs'' => fin D h'' tk (F'.change hs'' hCL hC₀) (fun p hp => ?_) o1⟩
    refine ⟨hs''.extBut _ _ ?_ (N' p hp).1, (N' p hp).2⟩
    rcases List.mem_cons.mp hp with rfl | hp
    · exact Ne.symm hCD
    · exact offC p hp
theorem ListComp_S {elt iter : Expr} {x : Str} {px : Pos} {scope : Scope} {cl : List (Str × Addr)} {pos : Pos} {Q : Value → Shared → Prop} (_F₀ : Fr h₀ L s.heap m)
    (hclos : closureFor scope env = pure cl) (hcell : ∀ y ∈ scope.names, y.2 ≠ .cell) (hkind : scope.kind = .function)
    (hnames : ∀ y ∈ scope.names, y.2 = .local → scope.names.lookup y.1 = some .local) (hx : scope.names.lookup x = some .local)
    (h : wpAny (model prog w) A (eval iter env) (fun xv s₁ => ∃ y ty news, xv = .str y ty ∧ A.handled = none ∧ y.cps.all (· < 128) = true ∧ y.cps.size ≤ sizeLine ∧ Fr h₀ L s₁.heap m ∧ News h₀ L s₁.heap news ∧
      ∀ g, CompRest prog w A h₀ L m env elt x scope cl { s₁ with heap := g } (fun _ => True) (SignAt y) (FinE h₀ L m { s₁ with heap := g } Q) y.cps.size 0 [] news) E s)
    (hs : ∀ x, foldedSetIterable iter env x = pure x := by intro _; rfl) :
    wpAny (model prog w) A (eval (.ListComp elt [⟨.Name x px, iter, [], 0⟩] scope pos) env) Q E s := by
  rw [eval_ListComp]
  refine wpAny_comprehension_free (use := none) rfl hs hclos hkind hnames (wpAny_mono h (fun xv s₁ h₁ => ?_) fun _ _ e => e)
  obtain ⟨y, ty, news, rfl, hh, hasc, hsz, F, N, R⟩ := h₁
  refine wpAny_pyIter_ascii hasc ?_
  exact block_W (o := { cls := .type "str_ascii_iterator", data := .fields #[.str y ty, .int 0 0] }) hcell hkind hx (Walks.strAscii hh s₁.heap.objs.size y ty) hsz (fun i h st => let ⟨o, e, _⟩ := st; ⟨o, e⟩) (fun i h h' o st e e' => by obtain ⟨o', q, r⟩ := st; rw [e] at q; cases q; exact ⟨o, e', r⟩) ⟨_, Heap.get?_push_size _ rfl, rfl, rfl⟩ F N (R _)
theorem ListComp_B {elt iter : Expr} {x : Str} {px : Pos} {scope : Scope} {cl : List (Str × Addr)} {pos : Pos} {Q : Value → Shared → Prop} (_F₀ : Fr h₀ L s.heap m)
    (hclos : closureFor scope env = pure cl) (hcell : ∀ y ∈ scope.names, y.2 ≠ .cell) (hkind : scope.kind = .function)
    (hnames : ∀ y ∈ scope.names, y.2 = .local → scope.names.lookup y.1 = some .local) (hx : scope.names.lookup x = some .local)
    (h : wpAny (model prog w) A (eval iter env) (fun xv s₁ => ∃ b tb news, xv = .bytes b tb ∧ A.handled = none ∧ b.size ≤ sizeLine ∧ Fr h₀ L s₁.heap m ∧ News h₀ L s₁.heap news ∧
      ∀ g, CompRest prog w A h₀ L m env elt x scope cl { s₁ with heap := g } (fun _ => True) (fun i v => ∃ n u, b[i]? = some n ∧ v = .int (n.toNat : Int) u) (FinE h₀ L m { s₁ with heap := g } Q) b.size 0 [] news) E s)
    (hs : ∀ x, foldedSetIterable iter env x = pure x := by intro _; rfl) :
    wpAny (model prog w) A (eval (.ListComp elt [⟨.Name x px, iter, [], 0⟩] scope pos) env) Q E s := by
  rw [eval_ListComp]
  refine wpAny_comprehension_free (use := none) rfl hs hclos hkind hnames (wpAny_mono h (fun xv s₁ h₁ => ?_) fun _ _ e => e)
  obtain ⟨b, tb, news, rfl, hh, hsz, F, N, R⟩ := h₁
  refine KBw.pyIter_bytes ?_
  exact block_W (o := { cls := .type "bytes_iterator", data := .fields #[.bytes b tb, .int 0 0] }) hcell hkind hx (KBw.walks hh s₁.heap.objs.size b tb) hsz (fun i h st => let ⟨o, e, _⟩ := st; ⟨o, e⟩) (fun i h h' o st e e' => by obtain ⟨o', q, r⟩ := st; rw [e] at q; cases q; exact ⟨o, e', r⟩) ⟨_, Heap.get?_push_size _ rfl, rfl, rfl⟩ F N (R _)
theorem restS {elt : Expr} {x : Str} {scope : Scope} {cl : List (Str × Addr)} {S' : List (Addr × Obj) → Prop} {P : Nat → Value → Prop} {Fin : List Value → List (Addr × Obj) → Prop} {news : List (Addr × Obj)} {n : Nat} {cs : List Nat}
    (hks : cs.length = n) (hP : ∀ i v, i < n → P i v → ∃ c t, cs[i]? = some c ∧ v = .str ⟨#[c]⟩ t)
    (turn : ∀ c t I oI C oC D m₂ ys h tk (E' : Value → Shared → Prop), c ∈ cs → NsObj oC m₂ → m₂ x = some (.str ⟨#[c]⟩ t) → Fr h₀ L h m → News h₀ L h ((I, oI) :: (C, oC) :: (D, lst ys) :: news) → Off3 I C D news → ((@Ne Nat I C) ∧ (@Ne Nat I D) ∧ (@Ne Nat C D)) →
      wpAny (model prog w) A (eval elt (compEnvC scope cl C env)) (CompEnd h₀ L m { s with heap := h, toks := tk } I oI C oC D (lst ys) S' (fun y news' => news' = news ∧ ∃ t, y = .int (c : Int) t)) E' { s with heap := h, toks := tk })
    (fin : ∀ ys, IntsAre ys (cs.map fun c : Nat => (c : Int)) → Fin ys news) : CompRest prog w A h₀ L m env elt x scope cl s S' P Fin n 0 [] news := by
  have key : ∀ (j i : Nat) (ys : List Value), i + j = n → IntsAre ys ((cs.take i).map fun c : Nat => (c : Int)) → CompRest prog w A h₀ L m env elt x scope cl s S' P Fin j i ys news := by
    intro j
    induction j with
    | zero =>
      intro i ys hi hy
      have e : i = cs.length := by omega
      subst e
      rw [List.take_length] at hy
      exact CompRest.zero (fin ys hy)
    | succ j ih =>
      intro i ys hi hy
      refine CompRest.succ ?_
      intro v I oI C oC D m₂ h tk E' hv hC hx F N off ne
      obtain ⟨c, t, hk, hv'⟩ := hP i v (by omega) hv
      rw [hv'] at hx
      refine wpAny_mono (turn c t I oI C oC D m₂ ys h tk E' (List.mem_of_getElem? hk) hC hx F N off ne) (fun y s₂ hq => ?_) fun _ _ e => e
      obtain ⟨h', tk', nw, e, F', N', off', hS, hn, t', hy'⟩ := hq
      subst hn
      refine ⟨h', tk', _, e, F', N', off', hS, ?_⟩
      rw [hy']
      refine ih (i + 1) _ (by omega) ?_
      rw [List.take_add_one, hk, Option.toList_some, List.map_append]
      exact hy.append (.cons _ _ .nil)
  exact key n 0 [] (by omega) (by simpa using IntsAre.nil)
theorem restI {elt : Expr} {x : Str} {scope : Scope} {cl : List (Str × Addr)} {S' : List (Addr × Obj) → Prop} {P : Nat → Value → Prop} {Fin : List Value → List (Addr × Obj) → Prop} {news : List (Addr × Obj)} {n : Nat} {ks : List Int} (g : Int → Str)
    (hks : ks.length = n) (hP : ∀ i v, i < n → P i v → ∃ k t, ks[i]? = some k ∧ v = .int k t)
    (turn : ∀ k t I oI C oC D m₂ ys h tk (E' : Value → Shared → Prop), k ∈ ks → NsObj oC m₂ → m₂ x = some (.int k t) → Fr h₀ L h m → News h₀ L h ((I, oI) :: (C, oC) :: (D, lst ys) :: news) → Off3 I C D news → ((@Ne Nat I C) ∧ (@Ne Nat I D) ∧ (@Ne Nat C D)) →
      wpAny (model prog w) A (eval elt (compEnvC scope cl C env)) (CompEnd h₀ L m { s with heap := h, toks := tk } I oI C oC D (lst ys) S' (fun y news' => news' = news ∧ ∃ t, y = .str (g k) t)) E' { s with heap := h, toks := tk })
    (fin : ∀ ys, StrsAre ys (ks.map g) → Fin ys news) : CompRest prog w A h₀ L m env elt x scope cl s S' P Fin n 0 [] news := by
  have key : ∀ (j i : Nat) (ys : List Value), i + j = n → StrsAre ys ((ks.take i).map g) → CompRest prog w A h₀ L m env elt x scope cl s S' P Fin j i ys news := by
    intro j
    induction j with
    | zero =>
      intro i ys hi hy
      have e : i = ks.length := by omega
      subst e
      rw [List.take_length] at hy
      exact CompRest.zero (fin ys hy)
    | succ j ih =>
      intro i ys hi hy
      refine CompRest.succ ?_
      intro v I oI C oC D m₂ h tk E' hv hC hx F N off ne
      obtain ⟨k, t, hk, hv'⟩ := hP i v (by omega) hv
      rw [hv'] at hx
      refine wpAny_mono (turn k t I oI C oC D m₂ ys h tk E' (List.mem_of_getElem? hk) hC hx F N off ne) (fun y s₂ hq => ?_) fun _ _ e => e
      obtain ⟨h', tk', nw, e, F', N', off', hS, hn, t', hy'⟩ := hq
      subst hn
      refine ⟨h', tk', _, e, F', N', off', hS, ?_⟩
      rw [hy']
      refine ih (i + 1) _ (by omega) ?_
      rw [List.take_add_one, hk, Option.toList_some, List.map_append]
      exact kct_snoc hy
  exact key n 0 [] (by omega) (by simpa using StrsAre.nil)
theorem itemStrR {value slice : PySem.Expr} {Q : Value → Shared → Prop} {news : List (Addr × Obj)} {D : Addr} {vs : List Value} {ls : List Str} {c : Nat} {k : Int} {tk : Tok} (N : News h₀ L s.heap news) (hm : (D, W.listOf vs.toArray c) ∈ news) (hvs : StrsAre vs ls) (h0 : 0 ≤ k) (h1 : k < (ls.length : Int)) (hn : ls.length ≤ 1000000)
    (h : ∀ t, Q (.str (ls.getD k.toNat (S [])) t) s)
    (hs : subscripted slice false (.ref D) (.int k tk) = operate [.ref D, .int k tk] (getItem (.ref D) (.int k tk)) := by with_unfolding_all rfl) :
    wpAny (model prog w) A (subscriptTail value slice (.ref D) (.int k tk)) Q E s := by
  obtain ⟨t, e⟩ := strsGet hvs k.toNat (by omega)
  exact item_listR (News.isList N hm) h0 (by omega) (by simpa using e) (h t) hs
end
end Mine
namespace Mine
def wcs (c : Nat) : Prop := c = 9 ∨ c = 10 ∨ c = 32
theorem wcs_lt {c : Nat} (h : wcs c) : c < 128 := by unfold wcs at h; omega
def alph (c1 c2 : Nat) : Str := Str.ofString "ABCDEFGHIJKLMNOPQRSTUVWXYZabcdefghijklmnopqrstuvwxyz0123456789" ++ S [c1, c2] ++ Str.ofString "="
def tcode (c1 c2 : Nat) (k : Int) : Nat := (trs (c1 : Int).toNat.toUInt8 (c2 : Int).toNat.toUInt8 (codeE k)).toNat
def tcodes (c1 c2 : Nat) (fs : List Int) : List Nat := fs.map (tcode c1 c2)
theorem bytes_codes (c1 c2 : Nat) (fs : List Int) : KBw.bInts (fs.map fun k => trs (c1 : Int).toNat.toUInt8 (c2 : Int).toNat.toUInt8 (codeE k)).toArray = (tcodes c1 c2 fs).map fun n : Nat => (n : Int) := by
  rw [KBw.ints_list, tcodes, List.map_map, List.map_map]
  rfl
theorem tcode_all : ∀ c1 ∈ [9, 10, 32], ∀ c2 ∈ [9, 10, 32], ∀ k, k < 65 → ((Txt.item (alph c1 c2) ((k : Nat) : Int) == S [tcode c1 c2 k]) && decide (tcode c1 c2 k < 128) && (Unicode.isSpace (tcode c1 c2 k) == (tcode c1 c2 k == 9 || tcode c1 c2 k == 10 || tcode c1 c2 k == 32))) = true := by decide +kernel
theorem alph_all : ∀ c1 ∈ [9, 10, 32], ∀ c2 ∈ [9, 10, 32], (alph c1 c2).length = 65 := by decide +kernel
theorem wcs_mem {c : Nat} (h : wcs c) : c ∈ [9, 10, 32] := by unfold wcs at h; simpa using h
theorem alph_len {c1 c2 : Nat} (h1 : wcs c1) (h2 : wcs c2) : (alph c1 c2).length = 65 := alph_all c1 (wcs_mem h1) c2 (wcs_mem h2)
theorem tcode_ok {c1 c2 : Nat} (h1 : wcs c1) (h2 : wcs c2) {k : Int} (h0 : 0 ≤ k) (hk : k < 65) : Txt.item (alph c1 c2) k = S [tcode c1 c2 k] ∧ tcode c1 c2 k < 128 ∧ Unicode.isSpace (tcode c1 c2 k) = (tcode c1 c2 k == 9 || tcode c1 c2 k == 10 || tcode c1 c2 k == 32) := by
  obtain ⟨n, rfl⟩ := Int.eq_ofNat_of_zero_le h0
  have h := tcode_all c1 (wcs_mem h1) c2 (wcs_mem h2) n (by omega)
  rw [Bool.and_eq_true, Bool.and_eq_true, beq_iff_eq, beq_iff_eq, decide_eq_true_eq] at h
  exact ⟨h.1.1, h.1.2, h.2⟩
theorem figs_in : ∀ l : List Int, (∀ v ∈ l, 0 ≤ v ∧ v < 256) → ∀ k ∈ figs l, 0 ≤ k ∧ k < 65
  | [], _ => by simp [figs]
  | [a], h => by
    have := h a (by simp)
    intro k hk
    simp only [figs, List.mem_cons, List.not_mem_nil, or_false] at hk
    omega
  | [a, b], h => by
    have := h a (by simp)
    have := h b (by simp)
    intro k hk
    simp only [figs, List.mem_cons, List.not_mem_nil, or_false] at hk
    omega
  | a :: b :: c :: r, h => by
    have ih := figs_in r fun v hv => h v (by simp [hv])
    have := h a (by simp)
    have := h b (by simp)
    have := h c (by simp)
    intro k hk
    simp only [figs, List.mem_cons] at hk
    rcases hk with rfl | rfl | rfl | rfl | hk
    · omega
    · omega
    · omega
    · omega
    · exact ih k hk
theorem S_app (a b : List Nat) : S a ++ S b = S (a ++ b) := by
  show (⟨a.toArray ++ b.toArray⟩ : Str) = _
  simp [S]
theorem join_nil : ∀ l : List Nat, Txt.join (Str.ofString "") (l.map fun c => S [c]) = S l := by
  intro l
  show Builtin.Str.glued _ _ = _
  rw [StrLaws.glued_eq_join, em_eq]
  induction l with
  | nil => rfl
  | cons c r ih =>
    cases r with
    | nil => rfl
    | cons d r =>
      show S [c] ++ S [] ++ Str.join (S []) ((d :: r).map fun c => S [c]) = _
      rw [ih, S_app, S_app]
      simp
theorem join_codes {bs : List Int} {cds : List Nat} (h : bs = cds.map fun n : Nat => (n : Int)) : Txt.join (Str.ofString "") (bs.map fun k => S [k.toNat]) = S cds := by
  subst h
  rw [List.map_map, ← join_nil cds]
  rfl
theorem join_figs {c1 c2 : Nat} (h1 : wcs c1) (h2 : wcs c2) {fs : List Int} (h : ∀ k ∈ fs, 0 ≤ k ∧ k < 65) : Txt.join (Str.ofString "") (fs.map (Txt.item (alph c1 c2))) = S (tcodes c1 c2 fs) := by
  rw [← join_nil, tcodes, List.map_map]
  congr 1
  exact List.map_congr_left fun k hk => (tcode_ok h1 h2 (h k hk).1 (h k hk).2).1
theorem joinOk_one {α : Type} (fs : List α) (g : α → Nat) (hl : fs.length ≤ 1000) : JoinOk (Str.ofString "") (fs.map fun k => S [g k]) = true := by
  refine joinOk_of ?_
  have h1 := sumLen_le (B := 1) (ys := fs.map fun k => S [g k]) fun a ha => by
    obtain ⟨k, _, rfl⟩ := List.mem_map.mp ha
    exact Nat.le_refl 1
  have h2 : (Str.ofString "").length = 0 := by decide +kernel
  rw [h2]
  rw [List.length_map] at h1 ⊢
  omega
theorem item_len (x : Str) (k : Int) : (Txt.item x k).length = 1 := rfl
theorem joinOk_items (fs : List Int) (x : Str) (hl : fs.length ≤ 1000) : JoinOk (Str.ofString "") (fs.map (Txt.item x)) = true := joinOk_one fs _ hl
end Mine
namespace Mine
/-- white signs of these texts -/
def ws (c : Nat) : Bool := c == 9 || c == 10 || c == 32
def G (l : List Nat) : Prop := ∀ c ∈ l, Unicode.isSpace c = ws c
def joinL : List (List Nat) → List Nat
  | [] => []
  | [x] => x
  | x :: y :: r => x ++ 10 :: joinL (y :: r)
theorem join_S : ∀ ls : List (List Nat), Txt.join (Str.ofString "\n") (ls.map S) = S (joinL ls) := by
  intro ls
  show Builtin.Str.glued _ _ = _
  rw [StrLaws.glued_eq_join, nl_eq]
  induction ls with
  | nil => rfl
  | cons x r ih =>
    cases r with
    | nil => rfl
    | cons y r =>
      show S x ++ S [10] ++ Str.join (S [10]) ((y :: r).map S) = _
      rw [ih, S_app, S_app]
      simp [joinL]
def spl : List Nat → List (List Nat)
  | [] => [[]]
  | c :: r => if c = 10 then [] :: spl r else (c :: (spl r).headD []) :: (spl r).tail
theorem spl_ne : ∀ l, ∃ a r, spl l = a :: r
  | [] => ⟨_, _, rfl⟩
  | c :: r => by
    unfold spl
    split
    · exact ⟨_, _, rfl⟩
    · exact ⟨_, _, rfl⟩
theorem spl_free : ∀ {x : List Nat}, 10 ∉ x → spl x = [x]
  | [], _ => rfl
  | c :: r, h => by
    have ih := spl_free (x := r) fun q => h (.tail _ q)
    rw [spl, if_neg (fun e : c = 10 => h (by rw [e]; exact .head _)), ih]
    rfl
theorem spl_cut : ∀ {x t : List Nat}, 10 ∉ x → spl (x ++ 10 :: t) = x :: spl t
  | [], t, _ => by simp [spl]
  | c :: r, t, h => by
    have ih := spl_cut (x := r) (t := t) fun q => h (.tail _ q)
    rw [List.cons_append, spl, if_neg (fun e : c = 10 => h (by rw [e]; exact .head _)), ih]
    rfl
theorem spl_join : ∀ {ls : List (List Nat)}, ls ≠ [] → (∀ a ∈ ls, 10 ∉ a) → spl (joinL ls) = ls
  | [], h, _ => absurd rfl h
  | [x], _, h => spl_free (h x (.head _))
  | x :: y :: r, _, h => by
    rw [joinL, spl_cut (h x (.head _)), spl_join (by simp) fun a ha => h a (.tail _ ha)]
theorem join_spl : ∀ l : List Nat, joinL (spl l) = l
  | [] => rfl
  | c :: r => by
    have ih := join_spl r
    obtain ⟨a, b, e⟩ := spl_ne r
    rw [spl]
    split
    · rename_i hc
      rw [e] at ih ⊢
      rw [joinL, ih, hc]; rfl
    · rw [e] at ih ⊢
      simp only [List.headD_cons, List.tail_cons]
      cases b with
      | nil => simp only [joinL] at ih ⊢; rw [ih]
      | cons d b => simp only [joinL] at ih ⊢; rw [← ih]; rfl
theorem free_spl : ∀ (l : List Nat), ∀ a ∈ spl l, 10 ∉ a
  | [] => by simp [spl]
  | c :: r => by
    have ih := free_spl r
    obtain ⟨a, b, e⟩ := spl_ne r
    rw [e] at ih
    rw [spl, e]
    split
    · intro y hy
      rcases List.mem_cons.mp hy with rfl | hy
      · simp
      · exact ih y hy
    · rename_i hc
      intro y hy
      rcases List.mem_cons.mp hy with rfl | hy
      · intro q
        rcases List.mem_cons.mp q with q | q
        · exact hc q.symm
        · exact ih a (.head _) q
      · exact ih y (.tail _ hy)
theorem spl_len : ∀ l : List Nat, (spl l).length ≤ l.length + 1
  | [] => Nat.le_refl _
  | c :: r => by
    have ih := spl_len r
    rw [spl]
    split
    · simp only [List.length_cons]; omega
    · simp only [List.length_cons, List.length_tail]; omega
theorem mem_spl : ∀ (l : List Nat), ∀ a ∈ spl l, ∀ c ∈ a, c ∈ l
  | [] => by simp [spl]
  | d :: r => by
    have ih := mem_spl r
    obtain ⟨a, b, e⟩ := spl_ne r
    rw [e] at ih
    rw [spl, e]
    split
    · intro y hy c hc
      rcases List.mem_cons.mp hy with rfl | hy
      · simp at hc
      · exact .tail _ (ih y hy c hc)
    · intro y hy c hc
      rcases List.mem_cons.mp hy with rfl | hy
      · rcases List.mem_cons.mp hc with rfl | hc
        · exact .head _
        · exact .tail _ (ih a (.head _) c hc)
      · exact .tail _ (ih y (.tail _ hy) c hc)
theorem split_S (l : List Nat) : Txt.split (S l) (Str.ofString "\n") = (spl l).map S := by
  have h1 : ∀ a ∈ (Txt.split (S l) (Str.ofString "\n")).map (fun x => x.cps.toList), 10 ∉ a := by
    intro a ha
    obtain ⟨x, hx, rfl⟩ := List.mem_map.mp ha
    exact StrLaws.split_free (S l) 10 x (by rw [nl_eq] at hx; exact hx)
  have h2 := StrLaws.join_split (S l) (Str.ofString "\n")
  have h3 := PyProof.Rows.split_pos (S l) (Str.ofString "\n")
  generalize Txt.split (S l) (Str.ofString "\n") = ps at h1 h2 h3
  have e : ps = (ps.map fun x => x.cps.toList).map S := by
    rw [List.map_map]
    conv => lhs; rw [← List.map_id ps]
    exact List.map_congr_left fun x _ => S_of x
  have hne : ps.map (fun x => x.cps.toList) ≠ [] := by
    intro q
    rw [List.map_eq_nil_iff.mp q] at h3
    simp at h3
  generalize ps.map (fun x => x.cps.toList) = ls at e h1 hne
  subst e
  have h4 := join_S ls
  rw [show Txt.join (Str.ofString "\n") (ls.map S) = Str.join (Str.ofString "\n") (ls.map S) from StrLaws.glued_eq_join _ _, h2] at h4
  rw [S_inj h4, spl_join hne h1]
theorem lfold_aux : ∀ (l : List Nat) (p : List (List Nat)) (q : List Nat), (l.foldl lstep (p, q)).1 ++ [(l.foldl lstep (p, q)).2] = p ++ (q ++ (spl l).headD []) :: (spl l).tail
  | [], p, q => by simp [spl]
  | c :: r, p, q => by
    obtain ⟨a, b, e⟩ := spl_ne r
    rw [List.foldl_cons, lstep, spl]
    split
    · rw [lfold_aux r _ _, e]; simp
    · rw [lfold_aux r _ _, e]; simp
theorem lfold_spl (l : List Nat) : (lfold l).1 ++ [(lfold l).2] = spl l := by
  obtain ⟨a, b, e⟩ := spl_ne l
  unfold lfold
  rw [lfold_aux, e]; rfl
theorem tw_all {p : Nat → Bool} : ∀ {l : List Nat}, (∀ c ∈ l, p c = true) → l.takeWhile p = l
  | [], _ => rfl
  | c :: r, h => by rw [List.takeWhile_cons, h c (.head _), if_pos rfl, tw_all fun d hd' => h d (.tail _ hd')]
theorem all_tw {p : Nat → Bool} : ∀ {l : List Nat}, l.takeWhile p = l → ∀ c ∈ l, p c = true
  | [], _, c, hc => by simp at hc
  | d :: r, h, c, hc => by
    rw [List.takeWhile_cons] at h
    by_cases hd' : p d = true
    · rw [if_pos hd'] at h
      rcases List.mem_cons.mp hc with rfl | hc
      · exact hd'
      · exact all_tw (List.cons.inj h).2 c hc
    · rw [if_neg hd'] at h; cases h
theorem mem_tw {p : Nat → Bool} : ∀ {l : List Nat} {c : Nat}, c ∈ l.takeWhile p → p c = true
  | [], c, h => by simp at h
  | d :: r, c, h => by
    rw [List.takeWhile_cons] at h
    by_cases hd' : p d = true
    · rw [if_pos hd'] at h
      rcases List.mem_cons.mp h with rfl | h
      · exact hd'
      · exact mem_tw h
    · rw [if_neg hd'] at h; simp at h
-- strip
theorem takeWhile_app {p : Nat → Bool} {u : List Nat} (hu : ∀ c ∈ u, p c = true) (c : Nat) (r : List Nat) (hc : p c = false) : (u ++ c :: r).takeWhile p = u := by
  rw [List.takeWhile_append_of_pos hu, List.takeWhile_cons, hc]
  simp
theorem strip_mid {u m v : List Nat} (hu : ∀ c ∈ u, Unicode.isSpace c = true) (hv : ∀ c ∈ v, Unicode.isSpace c = true) {c d : Nat} {m1 m2 : List Nat} (h1 : m = c :: m1) (h2 : m = m2 ++ [d]) (hc : Unicode.isSpace c = false) (hd' : Unicode.isSpace d = false) : Txt.strip (S (u ++ m ++ v)) = S m := by
  unfold Txt.strip
  rw [PyProof.Rows.stripBy_eq]
  have elo : stripLo Unicode.isSpace true (S (u ++ m ++ v)) = u.length := by
    simp only [stripLo, if_true]
    rw [show u ++ m ++ v = u ++ c :: (m1 ++ v) by simp [h1], takeWhile_app hu c _ hc]
  rw [elo]
  have ehi : stripHi Unicode.isSpace true (S (u ++ m ++ v)) u.length = u.length + m.length := by
    simp only [stripHi, if_true]
    rw [show ((u ++ m ++ v).drop u.length).reverse = v.reverse ++ d :: m2.reverse by simp [h2], takeWhile_app (fun x hx => hv x (List.mem_reverse.mp hx)) d _ hd', S_len]
    simp only [List.length_append, List.length_reverse]
    omega
  rw [ehi, PyProof.Rows.strSub_mk]
  show S _ = S _
  congr 1
  simp
theorem strip_white {l : List Nat} (h : ∀ c ∈ l, Unicode.isSpace c = true) : Txt.strip (S l) = S [] := by
  unfold Txt.strip
  rw [PyProof.Rows.stripBy_eq]
  have elo : stripLo Unicode.isSpace true (S l) = l.length := by
    simp only [stripLo, if_true]
    rw [tw_all h]
  rw [elo, PyProof.Rows.strSub_mk]
  show S _ = S _
  congr 1
  simp [S]
theorem rstrip_zero (l : List Nat) : ((Txt.rstrip (S l)).length = 0) ↔ ∀ c ∈ l, Unicode.isSpace c = true := by
  unfold Txt.rstrip
  rw [PyProof.Rows.stripBy_eq, PyProof.Rows.strSub_mk]
  have elo : stripLo Unicode.isSpace false (S l) = 0 := rfl
  rw [elo]
  simp only [stripHi, if_true, List.drop_zero, Nat.sub_zero]
  show (S _).length = 0 ↔ _
  rw [S_len, S_len, List.length_take]
  have hle : (l.reverse.takeWhile Unicode.isSpace).length ≤ l.length := by
    have := List.IsPrefix.length_le (List.takeWhile_prefix (p := Unicode.isSpace) (l := l.reverse))
    simpa using this
  constructor
  · intro h c hc
    have h3 : (l.reverse.takeWhile Unicode.isSpace).length = l.reverse.length := by rw [List.length_reverse]; omega
    have h4 := List.IsPrefix.eq_of_length (List.takeWhile_prefix (p := Unicode.isSpace) (l := l.reverse)) h3
    exact all_tw h4 c (List.mem_reverse.mpr hc)
  · intro h
    have h4 := tw_all (p := Unicode.isSpace) (l := l.reverse) fun c hc => h c (List.mem_reverse.mp hc)
    rw [h4, List.length_reverse]
    omega
-- lines
def unf (a : List Nat) : Bool := a.all wh
theorem wh_ws {c : Nat} (h : wh c = true) : ws c = true := by
  unfold wh at h; unfold ws
  simp at h ⊢; omega
theorem ws_wh {c : Nat} (h : c ≠ 10) : ws c = wh c := by
  unfold wh ws
  rw [Bool.eq_iff_iff]
  simp; omega
theorem dw_pre {p : Nat → Bool} : ∀ {a t : List Nat}, (∀ c ∈ a, p c = true) → (a ++ t).dropWhile p = t.dropWhile p
  | [], _, _ => rfl
  | c :: r, t, h => by rw [List.cons_append, List.dropWhile_cons, h c (.head _), if_pos rfl, dw_pre fun d hd' => h d (.tail _ hd')]
theorem dw_all {p : Nat → Bool} {a : List Nat} (h : ∀ c ∈ a, p c = true) : a.dropWhile p = [] := by
  have := dw_pre (t := []) h
  simpa using this
theorem dw_stop {p : Nat → Bool} : ∀ {a t : List Nat}, a.all p = false → (a ++ t).dropWhile p = a.dropWhile p ++ t ∧ a.dropWhile p ≠ []
  | [], _, h => by simp at h
  | c :: r, t, h => by
    rw [List.cons_append, List.dropWhile_cons, List.dropWhile_cons]
    by_cases hc : p c = true
    · rw [if_pos hc, if_pos hc]
      exact dw_stop (by rw [List.all_cons, hc, Bool.true_and] at h; exact h)
    · rw [if_neg hc, if_neg hc]
      exact ⟨rfl, by simp⟩
theorem dw_free : ∀ {a : List Nat}, 10 ∉ a → a.dropWhile ws = bareL a
  | [], _ => rfl
  | c :: r, h => by
    have hc : c ≠ 10 := fun e => h (by rw [e]; exact .head _)
    unfold bareL
    rw [List.dropWhile_cons, List.dropWhile_cons, ws_wh hc]
    split
    · exact dw_free fun q => h (.tail _ q)
    · rfl
theorem unf_ws {a : List Nat} (h : unf a = true) : ∀ c ∈ a, ws c = true := fun c hc => wh_ws (List.all_eq_true.mp h c hc)
theorem all_ws_free {a : List Nat} (h : 10 ∉ a) : a.all ws = unf a := by
  unfold unf
  rw [Bool.eq_iff_iff, List.all_eq_true, List.all_eq_true]
  constructor
  · intro q c hc; rw [← ws_wh fun e => h (by rw [← e]; exact hc)]; exact q c hc
  · intro q c hc; exact wh_ws (q c hc)
theorem drop_lines : ∀ {ls : List (List Nat)}, (∀ a ∈ ls, 10 ∉ a) → (joinL ls).dropWhile ws = bareL (joinL (ls.dropWhile unf))
  | [], _ => rfl
  | [a], h => by
    rw [List.dropWhile_cons]
    by_cases ha : unf a = true
    · rw [if_pos ha]
      exact dw_all (unf_ws ha)
    · rw [if_neg ha]
      exact dw_free (h a (.head _))
  | a :: b :: r, h => by
    rw [List.dropWhile_cons]
    by_cases ha : unf a = true
    · rw [if_pos ha, joinL, dw_pre (unf_ws ha), List.dropWhile_cons, show ws 10 = true from rfl, if_pos rfl]
      exact drop_lines fun c hc => h c (.tail _ hc)
    · rw [if_neg ha, joinL]
      have hu : unf a = false := by simpa using ha
      have h1 := (dw_stop (p := ws) (t := 10 :: joinL (b :: r)) (a := a) (by rw [all_ws_free (h a (.head _))]; exact hu)).1
      have h2 := (dw_stop (p := wh) (t := 10 :: joinL (b :: r)) (a := a) hu).1
      rw [h1, dw_free (h a (.head _))]
      unfold bareL
      rw [h2]
theorem bare_head {a : List Nat} {r : List (List Nat)} (ha : unf a = false) : bareL (joinL (a :: r)) = joinL (bareL a :: r) := by
  cases r with
  | nil => rfl
  | cons b r =>
    rw [joinL, joinL]
    exact (dw_stop (p := wh) ha).1
theorem bare_ne {a : List Nat} (ha : unf a = false) : bareL a ≠ [] := (dw_stop (p := wh) (t := []) ha).2
theorem bare_free {a : List Nat} (h : 10 ∉ a) : 10 ∉ bareL a := fun q => h ((List.dropWhile_suffix _).subset q)
theorem bare_nil {a : List Nat} : bareL a = [] ↔ unf a = true := by
  constructor
  · intro h
    by_cases ha : unf a = true
    · exact ha
    · exact absurd h (bare_ne (by simpa using ha))
  · intro h; exact dw_all (List.all_eq_true.mp h)
def tightL : List (List Nat) → Prop
  | [] => False
  | [a] => ∃ z d, a = z ++ [d] ∧ ws d = false
  | _ :: b :: r => tightL (b :: r)
theorem tight_join : ∀ {ls : List (List Nat)}, tightL ls → ∃ z d, joinL ls = z ++ [d] ∧ ws d = false
  | [], h => h.elim
  | [_], h => h
  | a :: b :: r, h => by
    obtain ⟨z, d, e, hd'⟩ := tight_join (ls := b :: r) h
    exact ⟨a ++ 10 :: z, d, by rw [joinL, e]; simp, hd'⟩
theorem tight_tail {a : List Nat} {r : List (List Nat)} (h : tightL (a :: r)) (ha : unf a = true) : tightL r := by
  cases r with
  | nil =>
    obtain ⟨z, d, e, hd'⟩ := h
    have := unf_ws ha d (by rw [e]; simp)
    rw [this] at hd'; cases hd'
  | cons b r => exact h
def hf : List (List Nat) → Bool
  | [] => false
  | b :: _ => !unf b
def peelG : List (List Nat) → List (List Nat) × List Nat
  | [] => ([], [])
  | a :: r => if unf a then peelG r else if hf r then ([], bareL (joinL (a :: r))) else (bareL a :: (peelG r).1, (peelG r).2)
theorem tight_drop : ∀ {ls : List (List Nat)}, tightL ls → ∃ a r, ls.dropWhile unf = a :: r ∧ unf a = false ∧ tightL (a :: r) ∧ r.length < ls.length ∧ peelG ls = peelG (a :: r) ∧ (∀ y ∈ a :: r, y ∈ ls)
  | [], h => h.elim
  | a :: r, h => by
    by_cases ha : unf a = true
    · obtain ⟨a', r', h1, h2, h3, h4, h5, h6⟩ := tight_drop (tight_tail h ha)
      refine ⟨a', r', ?_, h2, h3, ?_, ?_, fun y hy => .tail _ (h6 y hy)⟩
      · rw [List.dropWhile_cons, if_pos ha]; exact h1
      · rw [List.length_cons]; omega
      · rw [peelG, if_pos ha]; exact h5
    · exact ⟨a, r, by rw [List.dropWhile_cons, if_neg ha], by simpa using ha, h, by rw [List.length_cons]; omega, rfl, fun y hy => hy⟩
theorem mem_join : ∀ {ls : List (List Nat)} {c : Nat}, c ∈ joinL ls → c = 10 ∨ ∃ a ∈ ls, c ∈ a
  | [], c, h => by simp [joinL] at h
  | [a], c, h => .inr ⟨a, .head _, h⟩
  | a :: b :: r, c, h => by
    rw [joinL] at h
    rcases List.mem_append.mp h with h | h
    · exact .inr ⟨a, .head _, h⟩
    · rcases List.mem_cons.mp h with h | h
      · exact .inl h
      · rcases mem_join h with h | ⟨y, hy, hc⟩
        · exact .inl h
        · exact .inr ⟨y, .tail _ hy, hc⟩
theorem G10 : Unicode.isSpace 10 = ws 10 := by decide +kernel
theorem G_join {ls : List (List Nat)} (h : ∀ a ∈ ls, G a) : G (joinL ls) := by
  intro c hc
  rcases mem_join hc with rfl | ⟨a, ha, hca⟩
  · exact G10
  · exact h a ha c hca
theorem strip_tight {t : List Nat} (hg : G t) (ht : ∃ z d, t = z ++ [d] ∧ ws d = false) : Txt.strip (S t) = S (t.dropWhile ws) := by
  obtain ⟨z, d, e, hd'⟩ := ht
  have hne : t.dropWhile ws ≠ [] := (dw_stop (p := ws) (t := []) (by rw [e]; simp [hd'])).2
  have hsp := List.takeWhile_append_dropWhile (p := ws) (l := t)
  have hmem : ∀ c ∈ t.dropWhile ws, c ∈ t := fun c hc => (List.dropWhile_suffix _).subset hc
  have hfst : ∀ c r, t.dropWhile ws = c :: r → ws c = false := by
    intro c r q
    have := List.head?_dropWhile_not ws t
    rw [q] at this
    simpa using this
  have hlast : ∃ m2, t.dropWhile ws = m2 ++ [d] := by
    obtain ⟨q, hq⟩ := List.dropWhile_suffix (p := ws) (l := t)
    obtain ⟨m2, d', h2⟩ : ∃ m2 d', t.dropWhile ws = m2 ++ [d'] := ⟨_, _, (List.dropLast_concat_getLast hne).symm⟩
    rw [h2, ← List.append_assoc] at hq
    have := List.append_inj' (hq.trans e) rfl
    exact ⟨m2, by rw [h2]; rw [this.2]⟩
  obtain ⟨m2, h2⟩ := hlast
  generalize hm : t.dropWhile ws = m at *
  cases m with
  | nil => exact absurd rfl hne
  | cons c r =>
    have := strip_mid (u := t.takeWhile ws) (m := c :: r) (v := []) (c := c) (d := d) (m1 := r) (m2 := m2) ?_ (by simp) rfl h2 ?_ ?_
    · rw [List.append_nil, hsp] at this
      exact this
    · intro x hx
      rw [hg x ((List.takeWhile_prefix _).subset hx)]
      exact mem_tw hx
    · rw [hg c (hmem c (.head _))]; exact hfst c r rfl
    · rw [hg d (by rw [e]; simp)]; exact hd'
-- the loop
def peelIter : Nat → List Str → Str → List Str × Str
  | 0, acc, r => (acc, r)
  | n + 1, acc, r => if (splitdocF r).1 = S [] then (acc, (splitdocF r).2) else if (splitdocF r).2 = S [] then (acc ++ [(splitdocF r).1], (splitdocF r).2) else peelIter n (acc ++ [(splitdocF r).1]) (splitdocF r).2
theorem S_ne {l : List Nat} (h : l ≠ []) : S l ≠ S [] := fun q => h (S_inj q)
theorem unf_space {a : List Nat} (hg : G a) (h10 : 10 ∉ a) : (∀ c ∈ a, Unicode.isSpace c = true) ↔ unf a = true := by
  unfold unf
  rw [List.all_eq_true]
  constructor
  · intro h c hc
    rw [← ws_wh (fun e => h10 (by rw [← e]; exact hc)), ← hg c hc]; exact h c hc
  · intro h c hc
    rw [hg c hc]; exact wh_ws (h c hc)
theorem doc_lines {ls : List (List Nat)} {a : List Nat} {r : List (List Nat)} (h10 : ∀ y ∈ ls, 10 ∉ y) (hg : ∀ y ∈ ls, G y) (ht : tightL ls) (hd' : ls.dropWhile unf = a :: r) (ha : unf a = false) (hm : ∀ y ∈ a :: r, y ∈ ls) :
    docLines (S (joinL ls)) = (bareL a :: r).map S := by
  unfold docLines
  rw [strip_tight (G_join hg) (tight_join ht), drop_lines h10, hd', bare_head ha, split_S, spl_join (by simp)]
  intro y hy
  rcases List.mem_cons.mp hy with rfl | hy
  · exact bare_free (h10 a (hm a (.head _)))
  · exact h10 y (hm y (.tail _ hy))
theorem iter_lines : ∀ (n : Nat) (ls : List (List Nat)) (acc : List Str), ls.length ≤ n → (∀ y ∈ ls, 10 ∉ y) → (∀ y ∈ ls, G y) → tightL ls → peelIter n acc (S (joinL ls)) = (acc ++ (peelG ls).1.map S, S (peelG ls).2)
  | 0, ls, acc, hl, _, _, ht => by
    have : ls = [] := List.length_eq_zero_iff.mp (by omega)
    subst this
    exact ht.elim
  | n + 1, ls, acc, hl, h10, hg, ht => by
    obtain ⟨a, r, hd', ha, ht', hlr, hpg, hm⟩ := tight_drop ht
    have hdl := doc_lines h10 hg ht hd' ha hm
    rw [hpg, peelG, ha]
    simp only [Bool.false_eq_true, if_false]
    cases r with
    | nil =>
      have e : splitdocF (S (joinL ls)) = (S (bareL a), S []) := by
        unfold splitdocF; rw [hdl]; rfl
      rw [peelIter, e]
      simp only
      rw [if_neg (S_ne (bare_ne ha)), if_pos trivial]
      rfl
    | cons b r =>
      have hb10 := h10 b (hm b (.tail _ (.head _)))
      have hbg := hg b (hm b (.tail _ (.head _)))
      by_cases hb : unf b = true
      · have e : splitdocF (S (joinL ls)) = (S (bareL a), S (joinL r)) := by
          unfold splitdocF; rw [hdl]
          simp only [List.map_cons]
          rw [if_pos ((rstrip_zero b).mpr ((unf_space hbg hb10).mpr hb)), join_S]
        have ht2 : tightL r := tight_tail (a := b) ht' hb
        have hrn : joinL r ≠ [] := by
          obtain ⟨z, d, q, _⟩ := tight_join ht2
          rw [q]; simp
        rw [peelIter, e]
        simp only
        rw [if_neg (S_ne (bare_ne ha)), if_neg (S_ne hrn)]
        have ih := iter_lines n r (acc ++ [S (bareL a)]) (by simp only [List.length_cons] at hlr; omega) (fun y hy => h10 y (hm y (.tail _ (.tail _ hy)))) (fun y hy => hg y (hm y (.tail _ (.tail _ hy)))) ht2
        rw [ih]
        simp only [hf, hb, Bool.not_true, Bool.false_eq_true, if_false]
        rw [peelG, if_pos hb]
        simp
      · have hb' : unf b = false := by simpa using hb
        have e : splitdocF (S (joinL ls)) = (S [], S (joinL (bareL a :: b :: r))) := by
          unfold splitdocF; rw [hdl]
          simp only [List.map_cons]
          rw [if_neg (fun q => hb ((unf_space hbg hb10).mp ((rstrip_zero b).mp q)))]
          rw [← join_S]; rfl
        rw [peelIter, e]
        simp only
        rw [if_pos trivial]
        simp only [hf, hb', Bool.not_false, if_true]
        rw [bare_head ha]
        simp
theorem mem_join_l {ls : List (List Nat)} : ∀ {a : List Nat}, a ∈ ls → a.length ≤ (joinL ls).length := by
  induction ls with
  | nil => intro a h; simp at h
  | cons x r ih =>
    intro a h
    cases r with
    | nil => rw [List.mem_singleton.mp h]; exact Nat.le_refl _
    | cons y r =>
      rw [joinL, List.length_append, List.length_cons]
      rcases List.mem_cons.mp h with rfl | h
      · omega
      · have := ih h; omega
theorem join_tail (a : List Nat) (r : List (List Nat)) : (joinL r).length ≤ (joinL (a :: r)).length := by
  cases r with
  | nil => exact Nat.zero_le _
  | cons b r => rw [joinL, List.length_append, List.length_cons]; omega
theorem splitdocF_len (x : Str) : (splitdocF x).1.length ≤ x.length ∧ (splitdocF x).2.length ≤ x.length := by
  have h0 := PyProof.Rows.len_strip x
  have h1 : docLines x = (spl (Txt.strip x).cps.toList).map S := by
    unfold docLines
    rw [← split_S, ← S_of]
  have h2 : (joinL (spl (Txt.strip x).cps.toList)).length = (Txt.strip x).length := by
    rw [join_spl]; simp [Str.length]
  unfold splitdocF
  rw [h1]
  generalize spl (Txt.strip x).cps.toList = ls at h2
  rw [← h2] at h0
  clear h1 h2
  have e0 : (S []).length = 0 := rfl
  match ls, h0 with
  | [], _ => simp only [List.map_nil, e0]; omega
  | [a], h0 =>
    simp only [List.map_cons, List.map_nil, e0, S_len]
    exact ⟨h0, Nat.zero_le _⟩
  | a :: b :: r, h0 =>
    simp only [List.map_cons]
    have h3 := mem_join_l (ls := a :: b :: r) (.head _)
    have h4 := join_tail a (b :: r)
    have h5 := join_tail b r
    split
    · simp only [join_S, S_len]; omega
    · rw [show S a :: S b :: r.map S = (a :: b :: r).map S from rfl, join_S]
      simp only [S_len, List.length_nil]; omega
theorem em_yes {x : Str} (h : (x == Str.ofString "") = true) : x = S [] := by rw [em_eq] at h; exact beq_iff_eq.mp h
theorem em_no {x : Str} (h : (x == Str.ofString "") = false) : ¬ x = S [] := by
  rintro rfl
  rw [em_eq] at h
  simp at h
theorem strsDat {news : List (Addr × Obj)} : ∀ {vs : List Value} {ls : List Str}, StrsAre vs ls → DatAll news vs (ls.map Dat.str)
  | _, _, .nil => .nil
  | _, _, .cons y t r => .cons (.str y t) (strsDat r)
theorem neSame {prog : Program} {w : World} {A : Around} {E : Value → Shared → Prop} {s : Shared} {h₀ : Heap} {L a b D D2 : Addr} {news : List (Addr × Obj)} {us us2 : List Value} {T : List Str} {R : Str} {tr tr2 : Tok} {ka kb c c2 : Nat} {Q : Value → Shared → Prop}
    (N : News h₀ L s.heap news) (ma : (a, W.listOf #[.ref D, .str R tr] ka) ∈ news) (mD : (D, W.listOf us.toArray c) ∈ news) (hus : StrsAre us T) (mb : (b, W.listOf #[.ref D2, .str R tr2] kb) ∈ news) (mD2 : (D2, W.listOf us2.toArray c2) ∈ news) (hus2 : StrsAre us2 T)
    (hok : ∀ x ∈ T, PyData.strOk x = true) (hR : PyData.strOk R = true) (hu : A.units + 64 < cLine) (h : Q (.bool false) s) : wpAny (model prog w) A (compareOp .NotEq (.ref a) (.ref b)) Q E s := by
  have hds : ∀ d ∈ [Dat.list (T.map Dat.str), Dat.str R], kqdOk 8 d = true := by
    intro d hd'
    rcases List.mem_cons.mp hd' with rfl | hd'
    · simp only [kqdOk, List.all_map, List.all_eq_true]
      intro x hx
      exact hok x hx
    · rw [List.mem_singleton.mp hd']; exact hR
  refine kqd_ne (n₁ := news) (n₂ := news) (xs := [.ref D, .str R tr]) (ys := [.ref D2, .str R tr2]) (ds := [Dat.list (T.map Dat.str), Dat.str R]) (es := [Dat.list (T.map Dat.str), Dat.str R]) N ma rfl rfl (.cons (.list mD (strsDat hus)) (.cons (.str _ _) .nil)) (fun _ h => h) mb rfl rfl (.cons (.list mD2 (strsDat hus2)) (.cons (.str _ _) .nil)) (fun _ h => h) hds hds hu ?_
  simpa using h
end Mine
namespace Mine
-- the peeled answer by places
def fN (ls : List (List Nat)) : List Nat := (List.range ls.length).filter fun k => !unf (ls.getD k [])
def leadN (ls : List (List Nat)) (k : Nat) : Bool := (fN ls).any fun y => y == k + 1
def firstN (ls : List (List Nat)) : Nat := ((fN ls).filter (leadN ls) ++ [ls.length]).headD 0
def pfN (ls : List (List Nat)) : List (List Nat) × List Nat := (((fN ls).filter fun k => decide (k < firstN ls)).map fun k => bareL (ls.getD k []), bareL (joinL (ls.drop (firstN ls))))
theorem fN_cons (a : List Nat) (r : List (List Nat)) : fN (a :: r) = (if unf a then [] else [0]) ++ (fN r).map (· + 1) := by
  unfold fN
  rw [List.length_cons, List.range_succ_eq_map, List.filter_cons, List.filter_map]
  have e : ((fun k => !unf ((a :: r).getD k [])) ∘ Nat.succ) = fun k => !unf (r.getD k []) := by
    funext k; simp
  rw [e]
  by_cases ha : unf a = true
  · simp [ha]
  · simp [ha]
theorem any_zero (r : List (List Nat)) : ((fN r).any fun y => y == 0) = hf r := by
  cases r with
  | nil => rfl
  | cons b r =>
    rw [fN_cons, hf]
    by_cases hb : unf b = true
    · simp [hb, List.any_map, Function.comp_def]
    · simp [hb]
theorem lead_succ (a : List Nat) (r : List (List Nat)) (k : Nat) : leadN (a :: r) (k + 1) = leadN r k := by
  unfold leadN
  rw [fN_cons]
  by_cases ha : unf a = true
  · simp [ha, List.any_map, Function.comp_def]
  · simp [ha, List.any_map, Function.comp_def]
theorem lead_zero (a : List Nat) (r : List (List Nat)) : leadN (a :: r) 0 = hf r := by
  unfold leadN
  rw [fN_cons, ← any_zero r]
  by_cases ha : unf a = true
  · simp [ha, List.any_map, Function.comp_def]
  · simp [ha, List.any_map, Function.comp_def]
theorem lead_map (a : List Nat) (r : List (List Nat)) : ((fN r).map (· + 1)).filter (leadN (a :: r)) = ((fN r).filter (leadN r)).map (· + 1) := by
  rw [List.filter_map]
  congr 1
  congr 1
  funext k
  exact lead_succ a r k
theorem head_map (l : List Nat) (n : Nat) : (l.map (· + 1) ++ [n + 1]).headD 0 = (l ++ [n]).headD 0 + 1 := by
  cases l <;> rfl
theorem first_cons (a : List Nat) (r : List (List Nat)) : firstN (a :: r) = if (!unf a && hf r) = true then 0 else firstN r + 1 := by
  unfold firstN
  rw [fN_cons, List.filter_append, lead_map, List.length_cons]
  by_cases ha : unf a = true
  · simp only [ha, if_true, Bool.not_true, Bool.false_and, Bool.false_eq_true, if_false, List.filter_nil, List.nil_append]
    exact head_map _ _
  · have ha' : unf a = false := by simpa using ha
    simp only [ha', Bool.false_eq_true, if_false, Bool.not_false, Bool.true_and]
    by_cases hr : hf r = true
    · rw [if_pos hr, List.filter_cons, lead_zero, if_pos hr]; rfl
    · rw [if_neg hr, List.filter_cons, lead_zero, if_neg hr, List.filter_nil, List.nil_append]
      exact head_map _ _
theorem pf_peel : ∀ ls : List (List Nat), pfN ls = peelG ls
  | [] => rfl
  | a :: r => by
    have ih := pf_peel r
    rw [peelG, ← ih]
    unfold pfN
    rw [first_cons, fN_cons]
    by_cases ha : unf a = true
    · simp only [ha, if_true, Bool.not_true, Bool.false_and, Bool.false_eq_true, if_false, List.nil_append, List.drop_succ_cons, List.filter_map, List.map_map]
      congr 1
      have e : ((fun k => decide (k < firstN r + 1)) ∘ fun x => x + 1) = fun k => decide (k < firstN r) := by funext k; simp
      rw [e]
      exact List.map_congr_left fun k _ => by simp
    · have ha' : unf a = false := by simpa using ha
      simp only [ha', Bool.false_eq_true, if_false, Bool.not_false, Bool.true_and]
      by_cases hr : hf r = true
      · simp only [hr, if_true, List.drop_zero]
        congr 1
        rw [List.map_eq_nil_iff, List.filter_eq_nil_iff]
        intro k _; simp
      · simp only [hr, Bool.false_eq_true, if_false, List.drop_succ_cons]
        congr 1
        rw [List.filter_append, List.map_append, List.filter_map, List.map_map]
        have e : ((fun k => decide (k < firstN r + 1)) ∘ fun x => x + 1) = fun k => decide (k < firstN r) := by funext k; simp
        rw [e]
        have e2 : ((fun k => bareL ((a :: r).getD k [])) ∘ fun x => x + 1) = fun k => bareL (r.getD k []) := by funext k; simp
        rw [e2]
        simp
end Mine
namespace Mine
theorem TurnPost.brk' {h₀ : Heap} {L I : Addr} {oI : Obj} {J : (Str → Option Value) → List (Addr × Obj) → Prop} {s₁ s₂ : Shared} {Q : Flow → Shared → Prop} (h : Q .next s₂) : TurnPost h₀ L I oI J s₁ Q .brk s₂ := h
theorem tcodes_good {c1 c2 : Nat} (h1 : wcs c1) (h2 : wcs c2) {fs : List Int} (h : ∀ k ∈ fs, 0 ≤ k ∧ k < 65) : ∀ c ∈ tcodes c1 c2 fs, c < 128 ∧ Unicode.isSpace c = ws c := by
  intro c hc
  obtain ⟨k, hk, rfl⟩ := List.mem_map.mp hc
  have := tcode_ok h1 h2 (h k hk).1 (h k hk).2
  exact ⟨this.2.1, this.2.2⟩
-- the text's middle
theorem rdec : ∀ l : List Nat, l.all ws = false → ∃ m2 d v, l = m2 ++ [d] ++ v ∧ ws d = false ∧ ∀ c ∈ v, ws c = true
  | [], h => by simp at h
  | x :: r, h => by
    by_cases hr : r.all ws = true
    · refine ⟨[], x, r, rfl, ?_, List.all_eq_true.mp hr⟩
      rw [List.all_cons, hr, Bool.and_true] at h; exact h
    · obtain ⟨m2, d, v, e, hd', hv⟩ := rdec r (by simpa using hr)
      exact ⟨x :: m2, d, v, by rw [e]; rfl, hd', hv⟩
theorem dec : ∀ l : List Nat, l.all ws = false → ∃ u m v c m1 m2 d, l = u ++ m ++ v ∧ m = c :: m1 ∧ m = m2 ++ [d] ∧ (∀ x ∈ u, ws x = true) ∧ (∀ x ∈ v, ws x = true) ∧ ws c = false ∧ ws d = false
  | [], h => by simp at h
  | x :: r, h => by
    by_cases hx : ws x = true
    · rw [List.all_cons, hx, Bool.true_and] at h
      obtain ⟨u, m, v, c, m1, m2, d, e, e1, e2, hu, hv, hc, hd'⟩ := dec r h
      refine ⟨x :: u, m, v, c, m1, m2, d, by rw [e]; rfl, e1, e2, fun y hy => ?_, hv, hc, hd'⟩
      rcases List.mem_cons.mp hy with rfl | hy
      · exact hx
      · exact hu y hy
    · obtain ⟨m2, d, v, e, hd', hv⟩ := rdec (x :: r) h
      cases m2 with
      | nil =>
        have e' : x :: r = d :: v := e
        have hx' : x = d := (List.cons.inj e').1
        exact ⟨[], [d], v, d, [], [], d, e, rfl, rfl, by simp, hv, hd', hd'⟩
      | cons y m2 =>
        have e' : x :: r = y :: (m2 ++ [d] ++ v) := e
        have hx' : x = y := (List.cons.inj e').1
        exact ⟨[], y :: m2 ++ [d], v, y, m2 ++ [d], y :: m2, d, e, rfl, rfl, by simp, hv, by rw [← hx']; simpa using hx, hd'⟩
-- places of signs that are not white
def fI (l : List Nat) : List Nat := (List.range l.length).filter fun k => !ws (l.getD k 0)
theorem fI_cons (a : Nat) (r : List Nat) : fI (a :: r) = (if ws a then [] else [0]) ++ (fI r).map (· + 1) := by
  unfold fI
  rw [List.length_cons, List.range_succ_eq_map, List.filter_cons, List.filter_map]
  have e : ((fun k => !ws ((a :: r).getD k 0)) ∘ Nat.succ) = fun k => !ws (r.getD k 0) := by
    funext k; simp
  rw [e]
  by_cases ha : ws a = true
  · simp [ha]
  · simp [ha]
theorem fI_white : ∀ {u l : List Nat}, (∀ x ∈ u, ws x = true) → fI (u ++ l) = (fI l).map (· + u.length)
  | [], l, _ => by simp
  | x :: u, l, h => by
    rw [List.cons_append, fI_cons, h x (.head _), fI_white fun y hy => h y (.tail _ hy), List.map_map, List.length_cons]
    simp only [if_true, List.nil_append]
    congr 1
theorem fI_snoc (l : List Nat) (d : Nat) : fI (l ++ [d]) = fI l ++ if ws d then [] else [l.length] := by
  unfold fI
  rw [List.length_append, List.length_singleton, List.range_succ, List.filter_append]
  congr 1
  · apply List.filter_congr
    intro k hk
    have hk' := List.mem_range.mp hk
    simp [List.getD, List.getElem?_append_left hk']
  · by_cases hd' : ws d = true
    · simp [hd']
    · simp [hd']
theorem fI_back : ∀ {v l : List Nat}, (∀ x ∈ v, ws x = true) → fI (l ++ v) = fI l
  | [], l, _ => by simp
  | x :: v, l, h => by
    rw [show l ++ x :: v = (l ++ [x]) ++ v by simp, fI_back fun y hy => h y (.tail _ hy), fI_snoc, h x (.head _)]
    simp
theorem fI_all {l : List Nat} (h : ∀ x ∈ l, ws x = true) : fI l = [] := by
  have := fI_back (l := []) h
  rw [List.nil_append] at this
  exact this.trans rfl
theorem item_S (l : List Nat) (n : Nat) (h : n < l.length) : Txt.item (S l) (n : Int) = S [l.getD n 0] := by
  have h1 := beq_iff_eq.mp (PyProof.Rows.item_closes (x := S l) (i := (n : Int)) ⟨by omega, by rw [S_len]; omega⟩)
  rw [h1]
  simp [S, List.getD, h]
theorem isFull_S (l : List Nat) (n : Nat) (h : n < l.length) : isFull (S l) (n : Int) = !ws (l.getD n 0) := by
  unfold isFull wsl
  rw [item_S l n h, sp_eq, tab_eq, nl_eq]
  congr 1
  simp only [List.any_cons, List.any_nil, Bool.or_false, S_beq, ws]
  rw [Bool.eq_iff_iff]
  simp only [Bool.or_eq_true, decide_eq_true_eq, beq_iff_eq, List.cons.injEq, and_true]
  omega
theorem fullL_S (l : List Nat) : (rangeKs 0 (S l).length).filter (isFull (S l)) = (fI l).map fun n : Nat => (n : Int) := by
  unfold rangeKs fI
  rw [List.filter_map, S_len]
  have e : (List.range l.length).filter (isFull (S l) ∘ fun i : Nat => 0 + (i : Int)) = (List.range l.length).filter fun k => !ws (l.getD k 0) := by
    apply List.filter_congr
    intro k hk
    rw [Function.comp_apply, Int.zero_add, isFull_S l k (List.mem_range.mp hk)]
  rw [e]
  exact List.map_congr_left fun k _ => by rw [Int.zero_add]
theorem core_S {u m v : List Nat} {c d : Nat} {m1 m2 : List Nat} (h1 : m = c :: m1) (h2 : m = m2 ++ [d]) (hu : ∀ x ∈ u, ws x = true) (hv : ∀ x ∈ v, ws x = true) (hc : ws c = false) (hd' : ws d = false) : core (S (u ++ m ++ v)) = S m := by
  unfold core fullL
  rw [fullL_S]
  have eh : fI (u ++ m ++ v) = u.length :: (((fI (m1 ++ v)).map (· + 1)).map (· + u.length)) := by
    rw [List.append_assoc, fI_white hu, h1, List.cons_append, fI_cons, hc]
    simp
  have el : fI (u ++ m ++ v) = fI (u ++ m2) ++ [u.length + m2.length] := by
    rw [fI_back hv, h2, ← List.append_assoc, fI_snoc, hd', List.length_append]
    simp
  have e0 : ((fI (u ++ m ++ v)).map fun n : Nat => (n : Int)).getD (Int.toNat 0) 0 = (u.length : Int) := by rw [eh]; rfl
  have e1 : ((fI (u ++ m ++ v)).map fun n : Nat => (n : Int)).getD (-1 + (((fI (u ++ m ++ v)).map fun n : Nat => (n : Int)).length : Nat) : Int).toNat 0 = ((u.length + m2.length : Nat) : Int) := by
    rw [el, List.map_append, List.length_append]
    have q : (-1 + ((((fI (u ++ m2)).map fun n : Nat => (n : Int)).length + ([u.length + m2.length].map fun n : Nat => (n : Int)).length : Nat) : Int)).toNat = ((fI (u ++ m2)).map fun n : Nat => (n : Int)).length := by
      simp only [List.map_cons, List.map_nil, List.length_cons, List.length_nil]
      omega
    rw [q]
    simp [List.getD]
  rw [e0, e1]
  have hl : m.length = m2.length + 1 := by rw [h2]; simp
  have h3 := beq_iff_eq.mp (PyProof.Rows.slice_closesL (x := S (u ++ m ++ v)) (i := (u.length : Int)) (j := ((u.length + m2.length : Nat) : Int) + 1) (by omega) (by omega) (by rw [S_len]; simp only [List.length_append]; omega))
  rw [h3]
  show S _ = S _
  congr 1
  have e2 : (((u.length + m2.length : Nat) : Int) + 1 - (u.length : Int)).toNat = m.length := by omega
  rw [e2]
  simp
-- the peeled answer by lines
section
variable {x : Str} {ls : List (List Nat)} (hx : linesS x = ls.map S)
include hx
theorem get_lines (n : Nat) : (linesS x).getD n (S []) = S (ls.getD n []) := by
  rw [hx]
  simp only [List.getD, List.getElem?_map]
  cases ls[n]? <;> rfl
theorem isFilled_S (n : Nat) : isFilled x (n : Int) = !unf (ls.getD n []) := by
  unfold isFilled
  rw [Int.toNat_natCast, get_lines hx, bare_S, em_eq, S_beq]
  congr 1
  rw [Bool.eq_iff_iff, decide_eq_true_eq]
  exact bare_nil
theorem filled_S : (rangeKs 0 (linesS x).length).filter (isFilled x) = (fN ls).map fun n : Nat => (n : Int) := by
  have hl : (linesS x).length = ls.length := by rw [hx, List.length_map]
  unfold rangeKs fN
  rw [List.filter_map, hl]
  have e : (isFilled x ∘ fun i : Nat => 0 + (i : Int)) = fun k => !unf (ls.getD k []) := by
    funext k
    rw [Function.comp_apply, Int.zero_add, isFilled_S hx]
  rw [e]
  exact List.map_congr_left fun k _ => by rw [Int.zero_add]
theorem isLead_S (n : Nat) : isLead x (n : Int) = leadN ls n := by
  unfold isLead leadN
  rw [filled_S hx, List.any_map]
  congr 1
  funext k
  rw [Function.comp_apply, Bool.eq_iff_iff, beq_iff_eq, beq_iff_eq]
  omega
theorem first_S : firstI x = (firstN ls : Int) := by
  have hl : (linesS x).length = ls.length := by rw [hx, List.length_map]
  unfold firstI firstN
  rw [filled_S hx, List.filter_map, hl]
  have e : (isLead x ∘ fun n : Nat => (n : Int)) = leadN ls := by
    funext k
    rw [Function.comp_apply]
    exact isLead_S hx k
  rw [e]
  cases (fN ls).filter (leadN ls) <;> rfl
theorem peeled_lines (hne : (rangeKs 0 x.length).filter (isFull x) ≠ []) : peeledF x = ((pfN ls).1.map S, S (pfN ls).2) := by
  unfold peeledF pfN
  rw [if_neg hne, filled_S hx, first_S hx, List.filter_map, List.map_map, List.map_map, Int.toNat_natCast, hx]
  refine congr (congrArg Prod.mk ?_) ?_
  · have e : ((fun k : Int => decide (k < (firstN ls : Int))) ∘ fun n : Nat => (n : Int)) = fun k => decide (k < firstN ls) := by
      funext k
      rw [Function.comp_apply, Bool.eq_iff_iff, decide_eq_true_eq, decide_eq_true_eq]
      omega
    rw [e]
    refine List.map_congr_left fun k _ => ?_
    show bare ((linesS x).getD (k : Int).toNat (S [])) = _
    rw [Int.toNat_natCast, get_lines hx, bare_S]; rfl
  · rw [← List.map_drop, join_S, bare_S]
end
theorem lines_core {x : Str} {m : List Nat} (h : core x = S m) : linesS x = (spl m).map S := by
  unfold linesS
  rw [h]
  show ((lfold m).1 ++ [(lfold m).2]).map S = _
  rw [lfold_spl]
theorem tight_spl : ∀ {m m2 : List Nat} {d : Nat}, m = m2 ++ [d] → ws d = false → tightL (spl m) := by
  intro m m2
  induction m2 generalizing m with
  | nil =>
    intro d e hd'
    subst e
    have h10 : 10 ∉ [d] := by
      intro q
      rw [← List.mem_singleton.mp q] at hd'
      cases hd'
    rw [List.nil_append, spl_free h10]
    exact ⟨[], d, rfl, hd'⟩
  | cons a m2 ih =>
    intro d e hd'
    subst e
    have q := ih rfl hd'
    rw [List.cons_append, spl]
    obtain ⟨b, r, er⟩ := spl_ne (m2 ++ [d])
    rw [er] at q ⊢
    split
    · exact q
    · simp only [List.headD_cons, List.tail_cons]
      cases r with
      | nil =>
        obtain ⟨z, d', e1, e2⟩ := q
        exact ⟨a :: z, d', by rw [e1]; rfl, e2⟩
      | cons y r => exact q
theorem iter_strip {n : Nat} {acc : List Str} {x y : Str} (h : Txt.strip x = Txt.strip y) : peelIter (n + 1) acc x = peelIter (n + 1) acc y := by
  have e : splitdocF x = splitdocF y := by unfold splitdocF docLines; rw [h]
  rw [peelIter, peelIter, e]
theorem peel_both {cds : List Nat} (hg : ∀ c ∈ cds, c < 128 ∧ Unicode.isSpace c = ws c) :
    (peeledF (S cds) = ([], S []) ∧ peelIter ((S cds).length + 1) [] (S cds) = ([], S [])) ∨
    ∃ ls : List (List Nat), (∀ a ∈ ls, ∀ c ∈ a, c ∈ cds) ∧ peeledF (S cds) = ((peelG ls).1.map S, S (peelG ls).2) ∧ peelIter ((S cds).length + 1) [] (S cds) = ((peelG ls).1.map S, S (peelG ls).2) := by
  by_cases hall : cds.all ws = true
  · have hw := List.all_eq_true.mp hall
    refine .inl ⟨?_, ?_⟩
    · unfold peeledF
      rw [if_pos]
      rw [fullL_S, fI_all hw]; rfl
    · have e : splitdocF (S cds) = (S [], S []) := by
        unfold splitdocF docLines
        rw [strip_white fun c hc => by rw [(hg c hc).2]; exact hw c hc, split_S]; rfl
      rw [peelIter, e]
      simp only
      rw [if_pos trivial]
  · obtain ⟨u, m, v, c, m1, m2, d, e, e1, e2, hu, hv, hc, hd'⟩ := dec cds (by simpa using hall)
    have hmm : ∀ y ∈ m, y ∈ cds := fun y hy => by rw [e]; simp [hy]
    refine .inr ⟨spl m, fun a ha y hy => hmm y (mem_spl m a ha y hy), ?_, ?_⟩
    · have hco := core_S (v := v) e1 e2 hu hv hc hd'
      rw [← e] at hco
      rw [peeled_lines (lines_core hco), pf_peel]
      rw [fullL_S, e, fI_back hv, e2, ← List.append_assoc, fI_snoc, hd']
      simp
    · have hgs : ∀ y ∈ u ++ m ++ v, Unicode.isSpace y = ws y := fun y hy => (hg y (by rw [e]; exact hy)).2
      have s1 : Txt.strip (S cds) = S m := by
        rw [e]
        exact strip_mid (fun y hy => by rw [hgs y (by simp [hy])]; exact hu y hy) (fun y hy => by rw [hgs y (by simp [hy])]; exact hv y hy) e1 e2 (by rw [hgs c (by simp [e1])]; exact hc) (by rw [hgs d (by simp [e2])]; exact hd')
      have s2 : Txt.strip (S m) = S m := by
        have := strip_mid (u := []) (v := []) (by simp) (by simp) e1 e2 (by rw [hgs c (by simp [e1])]; exact hc) (by rw [hgs d (by simp [e2])]; exact hd')
        simpa using this
      rw [iter_strip (s1.trans s2.symm)]
      have hml : m.length ≤ cds.length := by rw [e]; simp; omega
      have := iter_lines ((S cds).length + 1) (spl m) [] (by rw [S_len]; have := spl_len m; omega) (free_spl m) (fun a ha y hy => (hg y (hmm y (mem_spl m a ha y hy))).2) (tight_spl e2 hd')
      rw [join_spl] at this
      rw [this]; rfl
theorem peel_eq {cds : List Nat} (hg : ∀ c ∈ cds, c < 128 ∧ Unicode.isSpace c = ws c) : peeledF (S cds) = peelIter ((S cds).length + 1) [] (S cds) := by
  rcases peel_both hg with ⟨h1, h2⟩ | ⟨ls, _, h1, h2⟩
  · rw [h1, h2]
  · rw [h1, h2]
theorem strOk_S {l : List Nat} (h : ∀ c ∈ l, c < 128) : PyData.strOk (S l) = true := by
  unfold PyData.strOk
  rw [← Array.all_toList, List.all_eq_true]
  intro c hc
  have := h c (by simpa [S] using hc)
  exact decide_eq_true (by omega)
theorem mem_bare {a : List Nat} {c : Nat} (h : c ∈ bareL a) : c ∈ a := (List.dropWhile_suffix _).subset h
theorem peelG_mem : ∀ {ls : List (List Nat)}, (∀ a ∈ ls, ∀ c ∈ a, c < 128) → (∀ a ∈ (peelG ls).1, ∀ c ∈ a, c < 128) ∧ ∀ c ∈ (peelG ls).2, c < 128
  | [], _ => by simp [peelG]
  | a :: r, h => by
    have ih := peelG_mem (ls := r) fun b hb => h b (.tail _ hb)
    rw [peelG]
    split
    · exact ih
    · split
      · refine ⟨by simp, fun c hc => ?_⟩
        rcases mem_join (mem_bare hc) with rfl | ⟨b, hb, hcb⟩
        · decide
        · exact h b hb c hcb
      · refine ⟨fun b hb c hc => ?_, ih.2⟩
        rcases List.mem_cons.mp hb with rfl | hb
        · exact h a (.head _) c (mem_bare hc)
        · exact ih.1 b hb c hc
theorem peel_ok {cds : List Nat} (hg : ∀ c ∈ cds, c < 128 ∧ Unicode.isSpace c = ws c) : (∀ x ∈ (peelIter ((S cds).length + 1) [] (S cds)).1, PyData.strOk x = true) ∧ PyData.strOk (peelIter ((S cds).length + 1) [] (S cds)).2 = true := by
  rcases peel_both hg with ⟨_, h2⟩ | ⟨ls, hm, _, h2⟩
  · rw [h2]; exact ⟨by simp, strOk_S (l := []) (by simp)⟩
  · have := peelG_mem (ls := ls) fun a ha c hc => (hg c (hm a ha c hc)).1
    rw [h2]
    refine ⟨fun x hx => ?_, strOk_S this.2⟩
    obtain ⟨a, ha, rfl⟩ := List.mem_map.mp hx
    exact strOk_S (this.1 a ha)
end Mine
namespace Mine
/-- the octets of a row of sixes, by fours -/
def octs : List Int → List Int
  | a :: b :: c :: d :: r => (let w := a * 262144 + b * 4096 + c * 64 + d; [w / 65536, w / 256 % 256, w % 256]) ++ octs r
  | _ => []
theorem octs_app : ∀ (k : Nat) (a b : List Int), a.length = 4 * k → octs (a ++ b) = octs a ++ octs b
  | 0, [], _, _ => rfl
  | 0, _ :: _, _, h => by simp at h
  | k + 1, [], _, h => by simp at h
  | k + 1, [_], _, h => by simp at h; omega
  | k + 1, [_, _], _, h => by simp at h; omega
  | k + 1, [_, _, _], _, h => by simp at h; omega
  | k + 1, x :: y :: z :: u :: r, b, h => by
    have ih := octs_app k r b (by simp only [List.length_cons] at h; omega)
    simp only [List.cons_append, octs, ih, List.nil_append]
theorem octs_len : ∀ a : List Int, (octs a).length ≤ a.length
  | [] => by simp [octs]
  | [_] => by simp [octs]
  | [_, _] => by simp [octs]
  | [_, _, _] => by simp [octs]
  | _ :: _ :: _ :: _ :: r => by
    have ih := octs_len r
    simp only [octs, List.length_cons, List.length_append, List.length_nil]
    omega
theorem drop4 {l : List Int} {i : Nat} (h : 4 * i + 3 < l.length) : (l.drop (4 * i)).take 4 = [l.getD (4 * i) 0, l.getD (4 * i + 1) 0, l.getD (4 * i + 2) 0, l.getD (4 * i + 3) 0] := by
  apply List.ext_getElem
  · simp; omega
  · intro k h1 h2
    simp at h2
    have h1' : 4 * i + k < l.length := by omega
    rw [List.getElem_take, List.getElem_drop]
    match k, h2 with
    | 0, _ => simp [List.getD, show 4 * i < l.length by omega]
    | 1, _ => simp [List.getD, show 4 * i + 1 < l.length by omega]
    | 2, _ => simp [List.getD, show 4 * i + 2 < l.length by omega]
    | 3, _ => simp [List.getD, show 4 * i + 3 < l.length by omega]
theorem octs_step (l : List Int) (i : Nat) (h : 4 * i + 3 < l.length) : octs (l.take (4 * (i + 1))) = octs (l.take (4 * i)) ++ octs [l.getD (4 * i) 0, l.getD (4 * i + 1) 0, l.getD (4 * i + 2) 0, l.getD (4 * i + 3) 0] := by
  rw [← drop4 h, ← octs_app i _ _ (by rw [List.length_take]; omega), ← List.take_add]
  rfl
theorem oct_turn {l : List Int} {us : List Value} {i : Nat} (h4 : 4 * i + 3 < l.length) {a b c d : Int} (ha : a = l.getD (4 * i) 0) (hb : b = l.getD (4 * i + 1) 0) (hc : c = l.getD (4 * i + 2) 0) (hd' : d = l.getD (4 * i + 3) 0)
    (h : IntsAre us (octs (l.take (4 * i)) ++ [(a * 262144 + b * 4096 + c * 64 + d).fdiv 65536, ((a * 262144 + b * 4096 + c * 64 + d).fdiv 256).fmod 256, (a * 262144 + b * 4096 + c * 64 + d).fmod 256])) : IntsAre us (octs (l.take (4 * (i + 1)))) := by
  rw [octs_step l i h4, ← ha, ← hb, ← hc, ← hd']
  rw [Int.fdiv_eq_ediv_of_nonneg _ (by decide), Int.fdiv_eq_ediv_of_nonneg _ (by decide), Int.fmod_eq_emod_of_nonneg _ (by decide), Int.fmod_eq_emod_of_nonneg _ (by decide)] at h
  simpa [octs] using h
theorem range4_size (n : Nat) (h : 3 ≤ n) : Builtin.Range.rangeSize 0 ((n : Int) - 3) 4 = ((n / 4 : Nat) : Int) := by
  unfold Builtin.Range.rangeSize
  simp only [show (4 : Int) > 0 by decide, if_true]
  split <;> omega
theorem range4_small (n : Nat) (h3 : 3 ≤ n) (h : n ≤ 100) : Builtin.Range.small 0 ((n : Int) - 3) 4 = true := by
  unfold Builtin.Range.small Builtin.Range.rangeFitsLong
  rw [range4_size n h3]
  simp only [Bool.and_eq_true, Bool.or_eq_true, decide_eq_true_eq, show (4 : Int) > 0 by decide, if_true]
  refine ⟨⟨⟨⟨⟨?_, ?_⟩, ⟨?_, ?_⟩⟩, ⟨?_, ?_⟩⟩, ⟨?_, ?_⟩⟩, .inr ⟨?_, ?_⟩⟩ <;> omega
def drawF (k : Int) : Int := if k.fmod 4 = 0 then 62 else if k.fmod 4 = 1 then 63 else (k.fdiv 4).fmod 64
def sixesL (ns : List Int) : List Int := (ns.take 8).map drawF ++ [0, 62, 63, 62, 1, 62, 2, 62]
theorem drawF_in (k : Int) : 0 ≤ drawF k ∧ drawF k < 64 := by
  unfold drawF
  split
  · omega
  · split
    · omega
    · rw [Int.fmod_eq_emod_of_nonneg _ (by decide)]; omega
theorem sixesL_in (ns : List Int) : ∀ v ∈ sixesL ns, 0 ≤ v ∧ v < 64 := by
  intro v hv
  unfold sixesL at hv
  rcases List.mem_append.mp hv with hv | hv
  · obtain ⟨k, _, rfl⟩ := List.mem_map.mp hv
    exact drawF_in k
  · simp at hv; omega
theorem sixesL_len (ns : List Int) : 8 ≤ (sixesL ns).length ∧ (sixesL ns).length ≤ 16 := by
  unfold sixesL
  simp; omega
def octL (ns : List Int) : List Int := octs ((sixesL ns).take (4 * ((sixesL ns).length / 4)))
theorem octL_len (ns : List Int) : (octL ns).length ≤ 16 := by
  have h := (sixesL_len ns).2
  unfold octL
  exact Nat.le_trans (octs_len _) (by rw [List.length_take]; omega)
theorem octs_in : ∀ l : List Int, (∀ v ∈ l, 0 ≤ v ∧ v < 64) → ∀ v ∈ octs l, 0 ≤ v ∧ v < 256
  | [], _ => by simp [octs]
  | [_], _ => by simp [octs]
  | [_, _], _ => by simp [octs]
  | [_, _, _], _ => by simp [octs]
  | a :: b :: c :: d :: r, h => by
    have ih := octs_in r fun v hv => h v (by simp [hv])
    have ha := h a (by simp)
    have hb := h b (by simp)
    have hc := h c (by simp)
    have hd' := h d (by simp)
    intro v hv
    simp only [octs, List.cons_append, List.nil_append, List.mem_cons] at hv
    rcases hv with rfl | rfl | rfl | hv
    · omega
    · omega
    · omega
    · exact ih v hv
theorem octL_in (ns : List Int) : ∀ v ∈ octL ns, 0 ≤ v ∧ v < 256 := octs_in _ fun v hv => sixesL_in ns v (List.mem_of_mem_take hv)
def menu : List Str := [Str.ofString "\n ", Str.ofString " \n", Str.ofString "\n\t", Str.ofString "\t\n", Str.ofString "\n\n"]
theorem menu_eq : menu = [S [10, 32], S [32, 10], S [10, 9], S [9, 10], S [10, 10]] := by decide +kernel
theorem menu_cases {k : Int} (h0 : 0 ≤ k) (h1 : k < 5) : ∃ c1 c2, menu.getD k.toNat (S []) = S [c1, c2] ∧ wcs c1 ∧ wcs c2 := by
  rw [menu_eq]
  have : k = 0 ∨ k = 1 ∨ k = 2 ∨ k = 3 ∨ k = 4 := by omega
  rcases this with rfl | rfl | rfl | rfl | rfl
  · exact ⟨10, 32, rfl, .inr (.inl rfl), .inr (.inr rfl)⟩
  · exact ⟨32, 10, rfl, .inr (.inr rfl), .inr (.inl rfl)⟩
  · exact ⟨10, 9, rfl, .inr (.inl rfl), .inl rfl⟩
  · exact ⟨9, 10, rfl, .inl rfl, .inr (.inl rfl)⟩
  · exact ⟨10, 10, rfl, .inr (.inl rfl), .inr (.inl rfl)⟩
theorem range1s_size (n : Nat) : Builtin.Range.rangeSize 0 ((n : Int) + 1) 1 = ((n + 1 : Nat) : Int) := by
  unfold Builtin.Range.rangeSize
  simp only [show (1 : Int) > 0 by decide, if_true]
  split <;> omega
theorem range1s_small (n : Nat) (h : n ≤ 1000) : Builtin.Range.small 0 ((n : Int) + 1) 1 = true := by
  unfold Builtin.Range.small Builtin.Range.rangeFitsLong
  rw [range1s_size]
  simp only [Bool.and_eq_true, Bool.or_eq_true, decide_eq_true_eq, show (1 : Int) > 0 by decide, if_true]
  refine ⟨⟨⟨⟨⟨?_, ?_⟩, ⟨?_, ?_⟩⟩, ⟨?_, ?_⟩⟩, ⟨?_, ?_⟩⟩, .inr ⟨?_, ?_⟩⟩ <;> omega
theorem signP {cs : List Nat} : ∀ (i : Nat) (v : Value), i < (S cs).cps.size → SignAt (S cs) i v → ∃ c t, cs[i]? = some c ∧ v = .str ⟨#[c]⟩ t := by
  rintro i v _ ⟨c, u, hc, rfl⟩
  exact ⟨c, u, by simpa [S] using hc, rfl⟩
theorem marks_in {c1 c2 : Nat} (h1 : wcs c1) (h2 : wcs c2) : KBa.In ([c1, c2].map fun c : Nat => (c : Int)) := by
  have := wcs_lt h1
  have := wcs_lt h2
  intro n hn
  simp at hn
  omega
theorem law_walk : PySem.Challenge.rw_mr0016_01.Holds := hd (by
  w_strict (
  k_go0
  (all_goals try k_fold)
  rename List Int => ns
  rename Shared => s₁
  rename World => w
  rename List Value => vS
  rename Heap.IsList _ _ _ => hLS
  rename IntsAre _ _ => hIS
  repeat' ((fail_if_success with_reducible show wpAny _ _ (exec (Stmt.For _ _ _ _ _) _) _ _ _); first | (k_unfold; (try dsimp only)) | (k_end; wrow_close) | walk1 | (dsimp only; walk1))
  repeat' ((fail_if_success with_reducible show wpAny _ _ (pyIter _) _ _ _); first | (k_unfold; (try dsimp only)) | (k_end; wrow_close) | walk1 | (dsimp only; walk1))
  rename IsRange _ _ _ _ _ _ _ _ => hR
  rename Fr _ _ _ _ => F₁
  rename News _ _ _ _ => N₁
  rename IntsAre _ (_ ++ _) => hI₁
  change IntsAre _ (sixesL ns) at hI₁
  have hs6 := sixesL_len ns
  have e6 : (List.map drawF (List.take 8 ns)).length + (1 + 1 + 1 + 1 + 1 + 1 + 1 + 1) = (sixesL ns).length := by simp [sixesL]
  rename _ = Data.cell none => dC
  have h36 : 3 ≤ (sixesL ns).length := by omega
  have h100 : (sixesL ns).length ≤ 100 := by omega
  refine iter_range (n := (sixesL ns).length / 4) (fun i m₁ news₁ => ∃ D' us c' D6 u6 c6 aS oC, m₁ (Str.ofString "script") = some (.ref aS) ∧ m₁ (Str.ofString "sixes") = some (.ref D6) ∧ m₁ (Str.ofString "octets") = some (.ref D') ∧
    [(D', W.listOf us.toArray c'), (D6, W.listOf u6.toArray c6), (s₁.heap.objs.size + 1, oC)] = news₁ ∧ s₁.heap.IsList aS vS.toArray ∧ oC.data = .cell none ∧ @LT.lt Nat _ (s₁.heap.objs.size + 1) D6 ∧ @LT.lt Nat _ (s₁.heap.objs.size + 1) D' ∧ IntsAre u6 (sixesL ns) ∧ IntsAre us (octs ((sixesL ns).take (4 * i))))
    rfl hR (range4_small _ (Nat.le_trans h36 (Nat.le_of_eq e6.symm)) (Nat.le_trans (Nat.le_of_eq e6) h100)) ((range4_size _ (Nat.le_trans h36 (Nat.le_of_eq e6.symm))).trans (congrArg (fun n : Nat => ((n / 4 : Nat) : Int)) e6)) F₁ (newsSub N₁ ?_) ⟨_, [], 0, _, _, 0, _, _, rfl, rfl, rfl, rfl, hLS, dC, ?_, ?_, hI₁, .nil⟩ ?_ ?_
  · kcf_all
  · omega
  · omega
  · clear hR F₁ N₁ hI₁
    rintro i t I oI m₁ _ h tk hi ⟨D', us, c', D6, u6, c6, aS, oC, hm1, hm2, hm3, rfl, hlS, hdC, hl6, hl8, h6, hus⟩ hoff F₂ N₂
    replace F₂ := frNamed (x := Str.ofString "script") F₂ hm1
    replace F₂ := frNamed (x := Str.ofString "sixes") F₂ hm2
    replace F₂ := frNamed (x := Str.ofString "octets") F₂ hm3
    clear hm1 hm2 hm3
    have h4 : 4 * i + 3 < (sixesL ns).length := by omega
    have hol : (octs ((sixesL ns).take (4 * i))).length ≤ 16 := Nat.le_trans (octs_len _) (by rw [List.length_take]; omega)
    simp only [List.forall_mem_cons] at hoff
    obtain ⟨ho1, ho2, ho3, _⟩ := hoff
    k_steps
    rename Fr _ _ _ _ => F₉
    rename News _ _ _ _ => N₉
    rename IntsAre _ (octs _ ++ [_, _, _]) => I₉
    have I₁₀ := oct_turn h4 (congrArg (fun n => (sixesL ns).getD n 0) (by omega)) (congrArg (fun n => (sixesL ns).getD n 0) (by omega)) (congrArg (fun n => (sixesL ns).getD n 0) (by omega)) (congrArg (fun n => (sixesL ns).getD n 0) (by omega)) I₉
    refine TurnEnd.mk' [(_, _), (D6, W.listOf u6.toArray c6), (s₁.heap.objs.size + 1, oC)] F₉ N₉ (by kcf_all) ?_ ⟨_, _, 0, D6, u6, c6, aS, oC, rfl, rfl, rfl, rfl, hlS, hdC, hl6, ?_, h6, I₁₀⟩
    · simp only [List.forall_mem_cons]
      exact ⟨by k_ne, ho2, ho3, List.forall_mem_nil _⟩
    · omega
  · clear hR F₁ N₁ hI₁
    rintro m₁ _ h tk ⟨D', us, c', D6, u6, c6, aS, oC, hm1, hm2, hm3, rfl, hlS, hdC, hl6, hl8, h6, hus⟩ F₂ N₂
    replace F₂ := frNamed (x := Str.ofString "script") F₂ hm1
    replace F₂ := frNamed (x := Str.ofString "octets") F₂ hm3
    clear hm1 hm2 hm3 h6
    have N₃ := newsSub N₂ (news := [(D', W.listOf us.toArray c'), (s₁.heap.objs.size + 1, oC)]) (by kcf_all)
    clear N₂
    change IntsAre us (octL ns) at hus
    have hol := octL_len ns
    have hoi := octL_in ns
    repeat' ((fail_if_success with_reducible show wpAny _ _ (subscriptTail (Expr.List _ _) _ (Value.ref _) _) _ _ _); first | (k_unfold; (try dsimp only)) | (k_end; wrow_close) | walk1 | (dsimp only; walk1))
    rename Fr _ _ _ _ => F₄
    rename News _ _ _ _ => N₄
    refine itemStrR (ls := menu) N₄ (.tail _ (.head _)) (.cons _ _ (.cons _ _ (.cons _ _ (.cons _ _ (.cons _ _ .nil))))) (fmod_lo _ (by decide)) (fmod_hi _ (by decide)) (by decide) ?_
    intro t₅
    obtain ⟨c1, c2, em, hc1, hc2⟩ := menu_cases (k := Int.fmod _ 5) (fmod_lo _ (by decide)) (fmod_hi _ (by decide))
    rw [em]
    clear em
    repeat' ((fail_if_success with_reducible show wpAny _ _ (exec (Stmt.For _ _ _ _ _) _) _ _ _); first | (k_unfold; (try dsimp only)) | (k_end; wrow_close) | walk1 | (dsimp only; walk1))
    repeat' ((fail_if_success with_reducible show wpAny _ _ (pyIter _) _ _ _); first | (k_unfold; (try dsimp only)) | (k_end; wrow_close) | walk1 | (dsimp only; walk1))
    rename IsRange _ _ _ _ _ _ _ _ => hR
    rename Fr _ _ _ _ => F₅
    rename News _ _ _ _ => N₅
    rename _ = Data.cell (some _) => dA
    refine iter_range (n := (octL ns).length + 1) (fun i m₁ news₁ => ∃ tm oA ta, m₁ (Str.ofString "octets") = some (.ref D') ∧ m₁ (Str.ofString "marks") = some (.str (S [c1, c2]) tm) ∧ [(D', W.listOf us.toArray c'), (s₁.heap.objs.size + 1, oA)] = news₁ ∧ oA.data = .cell (some (.str (alph c1 c2) ta)))
      rfl hR (range1s_small _ (by omega)) (range1s_size _) F₅ (newsSub N₅ ?_) ⟨_, _, _, rfl, rfl, rfl, dA⟩ ?_ ?_
    · kcf_all
    · clear hR F₅ N₅ dA
      rintro i t I oI m₁ _ h tk hi ⟨tm, oA, ta, hm1, hm2, rfl, hdA⟩ hoff F₆ N₆
      replace F₆ := frNamed (x := Str.ofString "octets") F₆ hm1
      replace F₆ := frNamed (x := Str.ofString "marks") F₆ hm2
      clear hm1 hm2
      repeat' ((fail_if_success with_reducible show wpAny _ _ (eval (Expr.ListComp _ _ _ _) _) _ _ _); (fail_if_success with_reducible show wpAny _ _ (call (Value.type "bytes") _ _) _ _ _); first | (k_unfold; (try dsimp only)) | (k_end; wrow_close) | walk1 | (dsimp only; walk1))
      rename Fr _ _ _ _ => F₇
      rename News _ _ _ _ => N₇
      rename IntsAre _ (List.take _ (octL ns)) => hI₇
      rw [show (0 + (i : Int) * 1).toNat = i by omega] at hI₇
      refine KBa.make_K F₇ N₇ rfl (News.isList N₇ (.head _)) hI₇ (fun v hv => hoi v (List.mem_of_mem_take hv)) (by rw [List.length_take]; omega) ?_
      intro h₈ t₈ k₈ F₈ N₈ _
      clear F₇ N₇
      repeat' ((fail_if_success with_reducible show wpAny _ _ (eval (Expr.ListComp _ _ _ _) _) _ _ _); first | (k_unfold; (try dsimp only)) | (k_end; wrow_close) | walk1 | (dsimp only; walk1))
      k_dflt (refine ListComp_S F₈ (by with_unfolding_all rfl) (by decide) (by rfl) (by decide) (by rfl) ?_)
      walk1
      refine ⟨S [c1, c2], tm, _, rfl, rfl, by simp [S, wcs_lt hc1, wcs_lt hc2], (by show 2 ≤ sizeLine; decide), F₈, N₈, fun g₈ => ?_⟩
      refine restS (cs := [c1, c2]) rfl signP ?_ ?_
      · intro c t I' oI' C oC D₉ m₂ ys h tk E' hc hC hx F₉ N₉ off ne
        have off0 := off
        k_steps
        exact LCg.CompEnd.intro (by assumption) (by assumption) _ (by kcf_all) off0 trivial ⟨rfl, _, rfl⟩
      · clear F₈ N₈
        intro ys₉ hys₉
        intro D₉ h₉ tk₉ F₉ N₉ off₉
        repeat' ((fail_if_success with_reducible show wpAny _ _ (call (Value.type "bytes") _ _) _ _ _); first | (k_unfold; (try dsimp only)) | (k_end; wrow_close) | walk1 | (dsimp only; walk1))
        refine KBa.make_K F₉ N₉ rfl (News.isList N₉ (.head _)) hys₉ (marks_in hc1 hc2) (by show 2 ≤ 16777216; decide) ?_
        intro h₁₀ t₁₀ k₁₀ F₁₀ N₁₀ _
        repeat' ((fail_if_success with_reducible show wpAny _ _ (call (Value.ref 58) _ _) _ _ _); first | (k_unfold; (try dsimp only)) | (k_end; wrow_close) | walk1 | (dsimp only; walk1))
        have hbs : (byteArr ((octL ns).take i)).size ≤ 100 := by rw [byteArr_size, List.length_take]; omega
        k_dflt (refine' con_use (con_b64 w _ t₈ (c1 : Int).toNat.toUInt8 (c2 : Int).toNat.toUInt8 t₁₀ hbs) ?k1 ?k2 ?k3 ?k4 ?k5 ?k6 ?k7 ?k8 ?k9 ?_; (case k1 => k_asm); (case k2 => k_asm); (case k3 => k_asm); (case k4 => k_asm); (case k5 => k_asm); (case k6 => exact rfl); (case k7 => ktr_room); (case k8 => ktr_units); (case k9 => trivial))
        rintro r tl h₁₁ tk₁₁ F₁₁ N₁₁ ⟨rfl, t₁₁, rfl⟩
        rw [List.nil_append] at N₁₁
        clear F₁₀ N₁₀ F₉ N₉
        have hfi : ∀ k ∈ figs ((octL ns).take i), 0 ≤ k ∧ k < 65 := figs_in _ fun v hv => hoi v (List.mem_of_mem_take hv)
        have hfl : (figs ((octL ns).take i)).length ≤ 64 := Nat.le_trans (figs_len _) (by rw [List.length_take]; omega)
        rw [KBa.ints_make (fun v hv => hoi v (List.mem_of_mem_take hv))]
        have hbb := bytes_codes c1 c2 (figs ((octL ns).take i))
        have hbl := KBw.ints_length ((figs ((octL ns).take i)).map fun k => trs (c1 : Int).toNat.toUInt8 (c2 : Int).toNat.toUInt8 (codeE k)).toArray
        generalize ((figs ((octL ns).take i)).map fun k => trs (c1 : Int).toNat.toUInt8 (c2 : Int).toNat.toUInt8 (codeE k)).toArray = bb at hbb hbl ⊢
        have hbl' : bb.size ≤ 64 := by rw [← hbl, hbb, List.length_map, tcodes, List.length_map]; exact hfl
        repeat' ((fail_if_success with_reducible show wpAny _ _ (eval (Expr.ListComp _ _ _ _) _) _ _ _); first | (k_unfold; (try dsimp only)) | (k_end; wrow_close) | walk1 | (dsimp only; walk1))
        rename Fr _ _ _ _ => F₁₂
        rename News _ _ _ _ => N₁₂
        k_dflt (refine ListComp_B F₁₂ (by with_unfolding_all rfl) (by decide) (by rfl) (by decide) (by rfl) ?_)
        walk1
        refine ⟨bb, t₁₁, _, rfl, rfl, (by rw [sizeLine_eq]; omega), F₁₂, N₁₂, fun g₁₂ => ?_⟩
        refine restI (ks := KBw.bInts bb) (fun k => S [k.toNat]) hbl (fun i v _ hv => by obtain ⟨n, u, hn, rfl⟩ := hv; exact ⟨_, u, KBw.ints_get hn, rfl⟩) ?_ ?_
        · intro k t I' oI' C oC D₁₂ m₂ ys h tk E' hk hC hx F₁₃ N₁₃ off ne
          have off0 := off
          have hk1 := KBw.ints_in hk
          clear F₁₂ N₁₂
          k_steps
          exact LCg.CompEnd.intro (by assumption) (by assumption) _ (by kcf_all) off0 trivial ⟨rfl, _, rfl⟩
        · clear F₁₂ N₁₂
          intro ys₁₃ hys₁₃
          intro D₁₃ h₁₃ tk₁₃ F₁₃ N₁₃ off₁₃
          repeat' ((fail_if_success with_reducible show wpAny _ _ (call (Value.builtin "str.join") _ _) _ _ _); first | (k_unfold; (try dsimp only)) | (k_end; wrow_close) | walk1 | (dsimp only; walk1))
          refine joinStrs N₁₃ (.head _) hys₁₃ (joinOk_one _ _ (by rw [hbl]; omega)) ?_
          intro t₁₄ k₁₄
          rw [join_codes hbb]
          clear hbb hbl hbl'
          have hcl : (tcodes c1 c2 (figs ((octL ns).take i))).length ≤ 64 := by rw [tcodes, List.length_map]; exact hfl
          generalize hcd : tcodes c1 c2 (figs ((octL ns).take i)) = cds at hcl ⊢
          repeat' ((fail_if_success with_reducible show wpAny _ _ (eval (Expr.ListComp _ _ _ _) _) _ _ _); first | (k_unfold; (try dsimp only)) | (k_end; wrow_close) | walk1 | (dsimp only; walk1))
          rename Fr _ _ _ _ => F₁₅
          rename News _ _ _ _ => N₁₅
          k_dflt (refine LCg.ListComp_U F₁₅ (by with_unfolding_all rfl) (by decide) (by rfl) (by decide) (by rfl) ?_)
          repeat' ((fail_if_success with_reducible show wpAny _ _ (call (Value.ref 65) _ _) _ _ _); first | (k_unfold; (try dsimp only)) | (k_end; wrow_close) | walk1 | (dsimp only; walk1))
          rename Fr _ _ _ _ => F₁₆
          rename News _ _ _ _ => N₁₆
          rename IntsAre _ (List.take (0 + (i : Int) * 1).toNat (octL ns)) => hI₁₆
          rw [show (0 + (i : Int) * 1).toNat = i by omega] at hI₁₆
          k_dflt (refine' con_use (con_figs w _ _ 0 _ hI₁₆ (fun v hv => hoi v (List.mem_of_mem_take hv)) (by rw [List.length_take]; omega)) ?k1 ?k2 ?k3 ?k4 ?k5 ?k6 ?k7 ?k8 ?k9 ?_; (case k1 => k_asm); (case k2 => k_asm); (case k3 => k_asm); (case k4 => k_asm); (case k5 => k_asm); (case k6 => exact rfl); (case k7 => ktr_room); (case k8 => ktr_units); (case k9 => exact .head _))
          rintro r tl h₁₇ tk₁₇ F₁₇ N₁₇ ⟨D₁₇, us₁₇, c₁₇, rfl, rfl, hus₁₇⟩
          simp only [List.cons_append, List.nil_append] at N₁₇
          have hul₁₇ := hus₁₇.length
          (try clear F₁₅); (try clear N₁₅); (try clear F₁₆); (try clear N₁₆)
          refine LCg.CompSrc.ledger rfl F₁₇ N₁₇ (.head _) (by rw [sizeLine_eq, List.size_toArray]; omega) ?_
          intro g₁₇
          have hal := alph_len hc1 hc2
          refine restI (ks := figs ((octL ns).take i)) (Txt.item (alph c1 c2)) (by rw [List.size_toArray, hul₁₇]) (listP hus₁₇) ?_ ?_
          · clear F₁₇ N₁₇
            intro k t I' oI' C oC D m₂ ys h tk E' hk hC hx F N off ne
            have off0 := off
            have hk1 := hfi k hk
            k_steps
            exact LCg.CompEnd.intro (by assumption) (by assumption) _ (by kcf_all) off0 (.inr ⟨_, .head _, rfl, _, rfl⟩) ⟨rfl, _, rfl⟩
          · clear F₁₇ N₁₇
            intro ys₁₈ hys₁₈
            intro D₁₈ h₁₈ tk₁₈ F₁₈ N₁₈ off₁₈
            repeat' ((fail_if_success with_reducible show wpAny _ _ (call (Value.builtin "str.join") _ _) _ _ _); first | (k_unfold; (try dsimp only)) | (k_end; wrow_close) | walk1 | (dsimp only; walk1))
            refine joinStrs N₁₈ (.head _) hys₁₈ (joinOk_items _ _ (by omega)) ?_
            intro t₁₉ k₁₉
            rw [join_figs hc1 hc2 hfi, hcd]
            repeat' ((fail_if_success with_reducible show wpAny _ _ (exec (Stmt.For _ _ _ _ _) _) _ _ _); first | (k_unfold; (try dsimp only)) | (k_end; wrow_close) | walk1 | (dsimp only; walk1))
            · rename (S cds != S cds) = true => hbad
              simp at hbad
            · rename Fr _ _ _ _ => F₂₀
              rename News _ _ _ _ => N₂₀
              have hcs : (S cds).length = cds.length := S_len _
              clear hys₁₃ hys₁₈ hus₁₇ hul₁₇ hI₁₆ hys₉ hI₇
              refine wpAny_mono (Q := fun f s₂ => f = Flow.next ∧ ∃ h' tk' m' D us₂ c₂ tr, s₂ = { s₁ with heap := h', toks := tk' } ∧ Fr s₁.heap s₁.heap.objs.size h' m' ∧ News s₁.heap s₁.heap.objs.size h' [(D, W.listOf us₂.toArray c₂), (I, oI), (D', W.listOf us.toArray c'), (s₁.heap.objs.size + 1, oA)] ∧
                m' (Str.ofString "octets") = some (.ref D') ∧ m' (Str.ofString "marks") = some (.str (S [c1, c2]) tm) ∧ m' (Str.ofString "text") = some (.str (S cds) t₁₄) ∧ m' (Str.ofString "titles") = some (.ref D) ∧ m' (Str.ofString "rest") = some (.str (peelIter ((S cds).length + 1) [] (S cds)).2 tr) ∧ StrsAre us₂ (peelIter ((S cds).length + 1) [] (S cds)).1) ?_ ?_ (fun _ _ e => e)
              · repeat' ((fail_if_success with_reducible show wpAny _ _ (pyIter _) _ _ _); first | (k_unfold; (try dsimp only)) | (k_end; wrow_close) | walk1 | (dsimp only; walk1))
                rename IsRange _ _ _ _ _ _ _ _ => hR
                rename Fr _ _ _ _ => F₂₁
                rename News _ _ _ _ => N₂₁
                refine iter_range (n := (S cds).length + 1) (fun j m₁ news₁ => ∃ D us₂ c₂ r tr acc, m₁ (Str.ofString "octets") = some (.ref D') ∧ m₁ (Str.ofString "marks") = some (.str (S [c1, c2]) tm) ∧ m₁ (Str.ofString "text") = some (.str (S cds) t₁₄) ∧ m₁ (Str.ofString "titles") = some (.ref D) ∧ m₁ (Str.ofString "rest") = some (.str r tr) ∧
                  [(D, W.listOf us₂.toArray c₂), (I, oI), (D', W.listOf us.toArray c'), (s₁.heap.objs.size + 1, oA)] = news₁ ∧ StrsAre us₂ acc ∧ acc.length ≤ j ∧ r.length ≤ 64 ∧ @LT.lt Nat _ (s₁.heap.objs.size + 1) D ∧ peelIter ((S cds).length + 1 - j) acc r = peelIter ((S cds).length + 1) [] (S cds))
                  rfl hR (range1s_small _ (by omega)) (range1s_size _) F₂₁ (newsSub N₂₁ ?_) ⟨_, [], 0, _, _, [], rfl, rfl, rfl, rfl, rfl, rfl, .nil, Nat.le_refl _, ?_, ?_, rfl⟩ ?_ ?_
                · kcf_all
                · omega
                · omega
                · clear hR F₂₁ N₂₁
                  rintro j t₂ I₂ oI₂ m₂ _ h₂ tk₂ hj ⟨D, us₂, c₂, r, tr, acc, hm1, hm2, hm3, hm4, hm5, rfl, hus₂, hal₂, hrl, hDl, hpi⟩ hoff₂ F₂₂ N₂₂
                  replace F₂₂ := frNamed (x := Str.ofString "octets") F₂₂ hm1
                  replace F₂₂ := frNamed (x := Str.ofString "marks") F₂₂ hm2
                  replace F₂₂ := frNamed (x := Str.ofString "text") F₂₂ hm3
                  replace F₂₂ := frNamed (x := Str.ofString "titles") F₂₂ hm4
                  replace F₂₂ := frNamed (x := Str.ofString "rest") F₂₂ hm5
                  clear hm1 hm2 hm3 hm4 hm5
                  repeat' ((fail_if_success with_reducible show wpAny _ _ (call (Value.ref 28) _ _) _ _ _); first | (k_unfold; (try dsimp only)) | (k_end; wrow_close) | walk1 | (dsimp only; walk1))
                  k_dflt (refine' con_use (con_splitdoc w r tr (by omega)) ?k1 ?k2 ?k3 ?k4 ?k5 ?k6 ?k7 ?k8 ?k9 ?_; (case k1 => k_asm); (case k2 => k_asm); (case k3 => k_asm); (case k4 => k_asm); (case k5 => k_asm); (case k6 => exact rfl); (case k7 => ktr_room); (case k8 => ktr_units); (case k9 => trivial))
                  rintro r' tl h₂₃ tk₂₃ F₂₃ N₂₃ ⟨D₂₃, ta, tb, rfl, rfl⟩
                  simp only [List.cons_append, List.nil_append] at N₂₃
                  have hsl := splitdocF_len r
                  rw [show (S cds).length + 1 - j = ((S cds).length + 1 - (j + 1)) + 1 by omega, peelIter] at hpi
                  generalize splitdocF r = pq at hsl hpi N₂₃
                  obtain ⟨ti, re⟩ := pq
                  simp only at hsl hpi N₂₃
                  have hul₂ := hus₂.length
                  simp only [List.forall_mem_cons] at hoff₂
                  obtain ⟨hoD, hoI, hoD', hoC, _⟩ := hoff₂
                  repeat' ((fail_if_success with_reducible show wpAny _ _ (binaryOp _ (Value.ref _) (Value.ref _)) _ _ _); (fail_if_success with_reducible show wpAny _ _ (subscriptTail _ _ (Value.ref _) _) _ _ _); first | (k_unfold; (try dsimp only)) | (k_end; wrow_close) | walk1 | (dsimp only; walk1))
                  · rename Fr _ _ _ _ => F₂₄
                    rename News _ _ _ _ => N₂₄
                    rename (ti == Str.ofString "") = true => hti
                    rw [if_pos (em_yes hti)] at hpi
                    refine TurnPost.brk' ?_
                    exact ⟨rfl, _, _, _, D, us₂, c₂, tb, rfl, F₂₄, newsSub N₂₄ (by kcf_all), rfl, rfl, rfl, rfl, by rw [← hpi]; rfl, by rw [← hpi]; exact hus₂⟩
                  · rename Fr _ _ _ _ => F₂₄
                    rename News _ _ _ _ => N₂₄
                    rename (ti == Str.ofString "") = false => hti
                    rw [if_neg (em_no hti)] at hpi
                    refine addL F₂₄ N₂₄ (by kcf_m) (by kcf_m) (by simp; omega) ?_
                    intro D₂₅ h₂₅ F₂₅ N₂₅ l₂₅
                    k_lt l₂₅
                    k_steps
                    · rename Fr _ _ _ _ => F₂₆
                      rename News _ _ _ _ => N₂₆
                      rename (re == Str.ofString "") = true => hre
                      rw [if_pos (em_yes hre)] at hpi
                      refine TurnPost.brk' ?_
                      exact ⟨rfl, _, _, _, D₂₅, _, _, tb, rfl, F₂₆, newsSub N₂₆ (by kcf_all), rfl, rfl, rfl, rfl, by rw [← hpi]; rfl, by rw [← hpi]; exact kct_snoc hus₂⟩
                    · rename Fr _ _ _ _ => F₂₆
                      rename News _ _ _ _ => N₂₆
                      rename (re == Str.ofString "") = false => hre
                      rw [if_neg (em_no hre)] at hpi
                      refine TurnEnd.mk' [(D₂₅, _), (I, oI), (D', W.listOf us.toArray c'), (s₁.heap.objs.size + 1, oA)] F₂₆ N₂₆ (by kcf_all) ?_ ⟨D₂₅, _, _, re, tb, acc ++ [ti], rfl, rfl, rfl, rfl, rfl, rfl, kct_snoc hus₂, ?_, ?_, ?_, hpi⟩
                      · simp only [List.forall_mem_cons]
                        exact ⟨by k_ne, hoI, hoD', hoC, List.forall_mem_nil _⟩
                      · simp only [List.length_append, List.length_singleton]; omega
                      · omega
                      · omega
                · clear hR F₂₁ N₂₁
                  rintro m₂ _ h₂ tk₂ ⟨D, us₂, c₂, r, tr, acc, hm1, hm2, hm3, hm4, hm5, rfl, hus₂, hal₂, hrl, hDl, hpi⟩ F₂₂ N₂₂
                  rw [Nat.sub_self, peelIter] at hpi
                  exact ⟨rfl, _, _, m₂, D, us₂, c₂, tr, rfl, F₂₂, N₂₂, hm1, hm2, hm3, hm4, by rw [hm5, ← hpi], by rw [← hpi]; exact hus₂⟩
              · rintro f s₂ ⟨rfl, h₃, tk₃, m₃, D, us₂, c₂, tr, rfl, F₃₀, N₃₀, hm1, hm2, hm3, hm4, hm5, hus₂⟩
                clear F₂₀ N₂₀
                replace F₃₀ := frNamed (x := Str.ofString "octets") F₃₀ hm1
                replace F₃₀ := frNamed (x := Str.ofString "marks") F₃₀ hm2
                replace F₃₀ := frNamed (x := Str.ofString "text") F₃₀ hm3
                replace F₃₀ := frNamed (x := Str.ofString "titles") F₃₀ hm4
                replace F₃₀ := frNamed (x := Str.ofString "rest") F₃₀ hm5
                clear hm1 hm2 hm3 hm4 hm5
                repeat' ((fail_if_success with_reducible show wpAny _ _ (call (Value.ref 77) _ _) _ _ _); first | (k_unfold; (try dsimp only)) | (k_end; wrow_close) | walk1 | (dsimp only; walk1))
                rename Fr _ _ _ _ => F₃₁
                rename News _ _ _ _ => N₃₁
                have hgood : ∀ c ∈ cds, c < 128 ∧ Unicode.isSpace c = ws c := by
                  rw [← hcd]; exact tcodes_good hc1 hc2 hfi
                have hasc : (S cds).cps.all (· < 128) = true := by
                  rw [← Array.all_toList, List.all_eq_true]
                  intro c hc
                  exact decide_eq_true (hgood c (by simpa [S] using hc)).1
                k_dflt (refine' con_use (con_peeled w (S cds) t₁₄ (by omega) hasc) ?k1 ?k2 ?k3 ?k4 ?k5 ?k6 ?k7 ?k8 ?k9 ?_; (case k1 => k_asm); (case k2 => k_asm); (case k3 => k_asm); (case k4 => k_asm); (case k5 => k_asm); (case k6 => exact rfl); (case k7 => ktr_room); (case k8 => ktr_units); (case k9 => trivial))
                rintro r tl h₃₂ tk₃₂ F₃₂ N₃₂ ⟨D₃₂, c₃₂, D₃₃, us₃₃, c₃₃, tr₃₃, rfl, rfl, hus₃₃⟩
                simp only [List.cons_append, List.nil_append] at N₃₂
                have hpe := peel_eq hgood
                have hok := peel_ok hgood
                rw [hpe] at N₃₂ hus₃₃
                generalize peelIter ((S cds).length + 1) [] (S cds) = pr at N₃₂ hus₃₃ hus₂ hok F₃₂
                clear hpe
                obtain ⟨pT, pR⟩ := pr
                simp only at N₃₂ hus₃₃ hus₂ hok F₃₂
                (try clear F₃₁); (try clear N₃₁); (try clear F₃₀); (try clear N₃₀)
                repeat' ((fail_if_success with_reducible show wpAny _ _ (compareOp _ (Value.ref _) (Value.ref _)) _ _ _); first | (k_unfold; (try dsimp only)) | (k_end; wrow_close) | walk1 | (dsimp only; walk1))
                rename News _ _ _ _ => N₃₄
                refine neSame N₃₄ (by kcf_m) (by kcf_m) hus₂ (by kcf_m) (by kcf_m) hus₃₃ hok.1 hok.2 (by units_room) ?_
                k_steps
                rename Fr _ _ _ _ => F₃₅
                rename News _ _ _ _ => N₃₅
                refine TurnEnd.mk' [(D', W.listOf us.toArray c'), (s₁.heap.objs.size + 1, oA)] F₃₅ N₃₅ (by kcf_all) hoff ⟨tm, oA, ta, rfl, rfl, rfl, hdA⟩
    · clear hR F₅ N₅ dA
      rintro m₁ _ h tk ⟨tm, oA, ta, hm1, hm2, rfl, hdA⟩ F₆ N₆
      k_steps))
end Mine
set_option maxRecDepth 100000 in
set_option maxHeartbeats 8000000 in
theorem PySem.Challenge.cw_mr0016_01_holds : PySem.Challenge.rw_mr0016_01.Holds :=
  Mine.law_walk
