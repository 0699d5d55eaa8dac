import PyProof.Rows.All
import Wide.All
import OpenK.AllK
import Wide.FinOn
import PySem.Challenge.RW_tr0035_01
set_option Elab.async false
set_option compiler.extract_closed false
section S_M0
open PySem PySem.W PyProof.Rows
namespace Mine
set_option maxRecDepth 100000 in
set_option maxHeartbeats 8000000 in
open_top hd for PySem.Challenge.rw_tr0035_01
end Mine
end S_M0
section S_P1
open PySem PySem.W PyProof.Rows
namespace Mine
noncomputable def tx (l : List Nat) : Str := ⟨l.toArray⟩
noncomputable def ampC (c : Nat) : List Nat := if c = 38 then [38, 97, 109, 112, 59] else [c]
noncomputable def ampL (l : List Nat) : List Nat := l.flatMap ampC
noncomputable def okC (c : Nat) : Bool := c != 60 && c != 62 && c != 34 && c != 13 && c != 10 && c != 9
noncomputable def plainL (l : List Nat) : Bool := l.all okC
theorem tx_cps (l : List Nat) : (tx l).cps.toList = l := rfl
theorem tx_len (l : List Nat) : (tx l).length = l.length := rfl
theorem tx_of (x : Str) : tx x.cps.toList = x := by cases x; rfl
theorem tx_app (a b : List Nat) : tx a ++ tx b = tx (a ++ b) := by
  apply Str.ext'
  show (tx a).cps ++ (tx b).cps = _
  simp [tx]
theorem amp_app (a b : List Nat) : ampL (a ++ b) = ampL a ++ ampL b := by simp [ampL]
theorem amp_free : ∀ l : List Nat, 38 ∉ l → ampL l = l
  | [], _ => rfl
  | k :: r, h => by
    have h1 : ¬ k = 38 := fun e => h (e ▸ List.mem_cons_self ..)
    have h2 : 38 ∉ r := fun m => h (List.mem_cons_of_mem _ m)
    have ih := amp_free r h2
    show ampC k ++ ampL r = _
    rw [ih]; simp [ampC, h1]
theorem amp_len : ∀ l : List Nat, (ampL l).length ≤ 5 * l.length
  | [] => Nat.le_refl _
  | k :: r => by
    have ih := amp_len r
    show (ampC k ++ ampL r).length ≤ _
    rw [List.length_append, List.length_cons]
    have : (ampC k).length ≤ 5 := by unfold ampC; split <;> simp
    omega
theorem plain_amp : ∀ l : List Nat, plainL l = true → plainL (ampL l) = true
  | [], _ => rfl
  | k :: r, h => by
    have h' : okC k = true ∧ plainL r = true := by simpa [plainL] using h
    have ih := plain_amp r h'.2
    show (ampC k ++ ampL r).all okC = true
    rw [List.all_append]
    have e : (ampL r).all okC = true := ih
    rw [e, Bool.and_true]
    unfold ampC
    split
    · decide
    · simp [h'.1]
theorem amp_join : ∀ parts : List Str, (∀ p ∈ parts, 38 ∉ p.cps.toList) → ampL (Str.join ⟨#[38]⟩ parts).cps.toList = (Str.join ⟨#[38, 97, 109, 112, 59]⟩ parts).cps.toList
  | [], _ => rfl
  | [p], h => amp_free _ (h p (List.mem_singleton.mpr rfl))
  | p :: q :: r, h => by
    have ih := amp_join (q :: r) fun a ha => h a (List.mem_cons_of_mem _ ha)
    show ampL (p ++ ⟨#[38]⟩ ++ Str.join ⟨#[38]⟩ (q :: r)).cps.toList = (p ++ ⟨#[38, 97, 109, 112, 59]⟩ ++ Str.join ⟨#[38, 97, 109, 112, 59]⟩ (q :: r)).cps.toList
    simp only [Str.cps_append, Array.toList_append]
    rw [amp_app, amp_app, ih, amp_free _ (h p (List.mem_cons_self ..))]
    rfl
theorem replace_amp (x : Str) : Txt.replace x ⟨#[38]⟩ ⟨#[38, 97, 109, 112, 59]⟩ = tx (ampL x.cps.toList) := by
  have h : (Txt.replace x ⟨#[38]⟩ ⟨#[38, 97, 109, 112, 59]⟩).cps.toList = ampL x.cps.toList := by
    rw [StrLaws.replace_one, ← amp_join _ (StrLaws.split_free x 38), StrLaws.join_split]
  rw [← h, tx_of]
theorem amp_lit : Str.ofString "&" = ⟨#[38]⟩ := by decide +kernel
theorem ampamp_lit : Str.ofString "&amp;" = ⟨#[38, 97, 109, 112, 59]⟩ := by decide +kernel
theorem found (l : List Nat) (c : Nat) : (!(Builtin.Str.occurrences (tx l) ⟨#[c]⟩ 0 (tx l).length 1).isEmpty) = decide (c ∈ l) := StrLaws.found_one (tx l) c
theorem not_amp {l : List Nat} (h : (Builtin.Str.occurrences (tx l) (Str.ofString "&") 0 (tx l).length 1).isEmpty = true) : tx l = tx (ampL l) := by
  have e := found l 38
  rw [amp_lit] at h
  rw [h] at e
  have : 38 ∉ l := by simpa using e.symm
  rw [amp_free l this]
theorem plain_not {l : List Nat} (h : plainL l = true) {c : Nat} (hc : okC c = false) : c ∉ l := fun m => by
  have := List.all_eq_true.mp h c m
  rw [hc] at this; cases this
section
variable {prog : Program} {w : World} {A : Around} {E : Value → Shared → Prop} {s : Shared}
theorem in_sp {l : List Nat} {t u : Tok} {y : Str} (c : Nat) (hp : plainL l = true) (hy : y = ⟨#[c]⟩) (hc : okC c = false) {Q : Value → Shared → Prop} (h : Q (.bool false) s) :
    wpAny (model prog w) A (compareOp .In (.str y u) (.str (tx l) t)) Q E s := by
  subst hy
  refine in_str ?_
  rw [found l c, decide_eq_false (plain_not hp hc)]
  exact h
theorem repl_amp {l : List Nat} {t : Tok} {u v : Nat} (hl : l.length ≤ 6000) (hu : 1 ≤ u) (huv : u < v) {Q : Value → Shared → Prop} (hq : ∀ t' k, Q (.str (tx (ampL l)) t') { s with toks := k }) :
    wpAny (model prog w) A (call (.builtin "str.replace") [.str (tx l) t, .str (Str.ofString "&") u, .str (Str.ofString "&amp;") v]) Q E s := by
  rw [amp_lit, ampamp_lit]
  refine SC.replaceW (show @Ne Nat u 0 by omega) (show @Ne Nat v 0 by omega) (show @Ne Nat u v by omega) (by decide) (by rw [tx_len]; omega) (by decide) ?_
  intro t' k
  have := hq t' k
  rw [replace_amp, tx_cps]
  exact this
theorem in_lit {x y : Str} {t u : Tok} (b : Bool) (e : (!(Builtin.Str.occurrences x y 0 x.length 1).isEmpty) = b) {Q : Value → Shared → Prop} (h : Q (.bool b) s) :
    wpAny (model prog w) A (compareOp .In (.str y u) (.str x t)) Q E s := by
  refine in_str ?_
  rw [e]
  exact h
theorem repl_lit {x y z r : Str} {t : Tok} {u v : Nat} (e : Txt.replace x y z = r) (hyz : (y == z) = false) (hx : x.length ≤ 6000) (hz : z.length ≤ 14) (hu : 1 ≤ u) (huv : u < v) {Q : Value → Shared → Prop} (hq : ∀ t' k, Q (.str r t') { s with toks := k }) :
    wpAny (model prog w) A (call (.builtin "str.replace") [.str x t, .str y u, .str z v]) Q E s := by
  refine SC.replaceW (show @Ne Nat u 0 by omega) (show @Ne Nat v 0 by omega) (show @Ne Nat u v by omega) hyz (by omega) hz ?_
  rw [e]
  exact hq
theorem tok_gen {M : Model} {α : Type} {tr : Sem α} {Q : α → Shared → Prop} {h : Heap} {g : Array GenState} {d : Drawn} {n : Nat} {o : OsState} (hn : 1 ≤ n)
    (H : ∀ tk, 1 ≤ tk → wpAny M A tr Q E ⟨h, g, d, tk, o⟩) : wpAny M A tr Q E ⟨h, g, d, n, o⟩ := H n hn
end
end Mine
end S_P1
section S_C0
open PySem PySem.W PyProof.Rows
namespace Mine
noncomputable abbrev PG : Program := PySem.Challenge.rw_tr0035_01.row.prog
noncomputable abbrev VW : Program := Mine.hd.view_39
noncomputable def Hold (P : Prop) : Prop := P
theorem hold_of {P : Prop} (h : Hold P) : P := h
theorem of_hold {P : Prop} (h : P) : Hold P := h
theorem news_sub {h₀ h : Heap} {L : Addr} {news news' : List (Addr × Obj)} (N : News h₀ L h news) (hs : ∀ p ∈ news', p ∈ news) : News h₀ L h news' := fun p hp => N p (hs p hp)
theorem name_news {h₀ h : Heap} {L d : Addr} {o : Obj} {l : List (Addr × Obj)} (_ : News h₀ L h ((d, o) :: l)) : ∃ d', d' = d := ⟨d, rfl⟩
theorem name_news2 {h₀ h : Heap} {L d : Addr} {o : Obj} {p : Addr × Obj} {l : List (Addr × Obj)} (_ : News h₀ L h (p :: (d, o) :: l)) : ∃ d', d' = d := ⟨d, rfl⟩
end Mine
end S_C0
section G_E1
open PySem PySem.W PyProof.Rows Mine
local macro_rules | `(tactic| walk_at "execs cons") => `(tactic| (k_here; refine' tok_gen ?hn ?_; (case hn => (fail_if_success with_reducible assumption); omega); intro tk htk))
local macro_rules | `(tactic| walk_at "execs nil") => `(tactic| (k_here; refine' tok_gen ?hn ?_; (case hn => (fail_if_success with_reducible assumption); omega); intro tk htk))
section S_E1
open PySem PySem.W PyProof.Rows
namespace Mine
example (w : World) : (fun (_ : Frag) (_ : OpenLaw) => True) (Mine.hd.heap_39 w.params) PySem.Challenge.rw_tr0035_01 := by k_fill; trivial
example : True := by w_top off; trivial
set_option linter.unusedVariables false
set_option maxRecDepth 100000
set_option maxHeartbeats 8000000
section
variable {w : World} {mean : ExcName → Option Value} {mg mb : Str → Option Value} {dp un : Nat} {gd : Option (List Code)} {cn : Str} {cs : Scope} {a : Addr} {ccd : Value} {cl : List (Str × Addr)} {outer : List Env} {A₀ : Around} {base h₀ : Heap} {L : Addr} {m : Str → Option Value} {news : List (Addr × Obj)} {s : Shared} {Q E : Value → Shared → Prop}
section
local macro_rules | `(tactic| walk_at "compareOp In str str") => `(tactic| (k_here; first | refine in_sp 60 (by assumption) (by decide +kernel) rfl ?_ | refine in_sp 62 (by assumption) (by decide +kernel) rfl ?_ | refine in_sp 34 (by assumption) (by decide +kernel) rfl ?_ | refine in_sp 13 (by assumption) (by decide +kernel) rfl ?_ | refine in_sp 10 (by assumption) (by decide +kernel) rfl ?_ | refine in_sp 9 (by assumption) (by decide +kernel) rfl ?_))
local macro_rules | `(tactic| walk_at "call builtin:str.replace") => `(tactic| (k_here; refine repl_amp (by assumption) (by omega) (by omega) ?_; intro t' k'))
theorem esc49 {l : List Nat} {t : Tok} (B : Below A₀ base outer h₀) (F : Fr h₀ L s.heap m) (X : (Mine.hd.heap_39 w.params).In h₀) (N : News h₀ L s.heap news) (T : Top VW (looseW VW []) mean mg mb h₀) (hk : cs.kind = .function) (hd : dp + 10 < recursionLimit) (hu : un + 80 < cLine) (hp : plainL l = true) (hl : l.length ≤ 6000)
    (ret : ∀ t' h' tk', Fr h₀ L h' m → News h₀ L h' news → Q (.str (tx (ampL l)) t') { s with heap := h', toks := tk' }) :
    wpAny (model PG w) (ktrTop dp un gd cn cs L a ccd cl outer) (call (.ref 49) [.str (tx l) t]) Q E s := by
  have hp2 := plain_amp l hp
  refine wpAny_call ?_
  k_dflt ktr_enter
  refine tok_gen (Nat.le_add_left 1 _) ?_
  intro tk htk
  k_steps
  all_goals (first | exact ret _ _ _ (by k_asm) (by k_asm) | (rw [not_amp (by assumption)]; exact ret _ _ _ (by k_asm) (by k_asm)))
theorem esc56 {l : List Nat} {t : Tok} (B : Below A₀ base outer h₀) (F : Fr h₀ L s.heap m) (X : (Mine.hd.heap_39 w.params).In h₀) (N : News h₀ L s.heap news) (T : Top VW (looseW VW []) mean mg mb h₀) (hk : cs.kind = .function) (hd : dp + 10 < recursionLimit) (hu : un + 80 < cLine) (hp : plainL l = true) (hl : l.length ≤ 6000)
    (ret : ∀ t' h' tk', Fr h₀ L h' m → News h₀ L h' news → Q (.str (tx (ampL l)) t') { s with heap := h', toks := tk' }) :
    wpAny (model PG w) (ktrTop dp un gd cn cs L a ccd cl outer) (call (.ref 56) [.str (tx l) t]) Q E s := by
  have hp2 := plain_amp l hp
  refine wpAny_call ?_
  k_dflt ktr_enter
  refine tok_gen (Nat.le_add_left 1 _) ?_
  intro tk htk
  k_steps
  all_goals (first | exact ret _ _ _ (by k_asm) (by k_asm) | (rw [not_amp (by assumption)]; exact ret _ _ _ (by k_asm) (by k_asm)))
theorem esc63 {l : List Nat} {t : Tok} (B : Below A₀ base outer h₀) (F : Fr h₀ L s.heap m) (X : (Mine.hd.heap_39 w.params).In h₀) (N : News h₀ L s.heap news) (T : Top VW (looseW VW []) mean mg mb h₀) (hk : cs.kind = .function) (hd : dp + 10 < recursionLimit) (hu : un + 80 < cLine) (hp : plainL l = true) (hl : l.length ≤ 6000)
    (ret : ∀ t' h' tk', Fr h₀ L h' m → News h₀ L h' news → Q (.str (tx (ampL l)) t') { s with heap := h', toks := tk' }) :
    wpAny (model PG w) (ktrTop dp un gd cn cs L a ccd cl outer) (call (.ref 63) [.str (tx l) t]) Q E s := by
  have hp2 := plain_amp l hp
  refine wpAny_call ?_
  k_dflt ktr_enter
  refine tok_gen (Nat.le_add_left 1 _) ?_
  intro tk htk
  k_steps
  all_goals (first | exact ret _ _ _ (by k_asm) (by k_asm) | (rw [not_amp (by assumption)]; exact ret _ _ _ (by k_asm) (by k_asm)))
theorem esc70 {l : List Nat} {t : Tok} (B : Below A₀ base outer h₀) (F : Fr h₀ L s.heap m) (X : (Mine.hd.heap_39 w.params).In h₀) (N : News h₀ L s.heap news) (T : Top VW (looseW VW []) mean mg mb h₀) (hk : cs.kind = .function) (hd : dp + 10 < recursionLimit) (hu : un + 80 < cLine) (hp : plainL l = true) (hl : l.length ≤ 6000)
    (ret : ∀ t' h' tk', Fr h₀ L h' m → News h₀ L h' news → Q (.str (tx (ampL l)) t') { s with heap := h', toks := tk' }) :
    wpAny (model PG w) (ktrTop dp un gd cn cs L a ccd cl outer) (call (.ref 70) [.str (tx l) t]) Q E s := by
  have hp2 := plain_amp l hp
  refine wpAny_call ?_
  k_dflt ktr_enter
  refine tok_gen (Nat.le_add_left 1 _) ?_
  intro tk htk
  k_steps
  all_goals (first | exact ret _ _ _ (by k_asm) (by k_asm) | (rw [not_amp (by assumption)]; exact ret _ _ _ (by k_asm) (by k_asm)))
theorem esc77 {l : List Nat} {t : Tok} (B : Below A₀ base outer h₀) (F : Fr h₀ L s.heap m) (X : (Mine.hd.heap_39 w.params).In h₀) (N : News h₀ L s.heap news) (T : Top VW (looseW VW []) mean mg mb h₀) (hk : cs.kind = .function) (hd : dp + 10 < recursionLimit) (hu : un + 80 < cLine) (hp : plainL l = true) (hl : l.length ≤ 6000)
    (ret : ∀ t' h' tk', Fr h₀ L h' m → News h₀ L h' news → Q (.str (tx (ampL l)) t') { s with heap := h', toks := tk' }) :
    wpAny (model PG w) (ktrTop dp un gd cn cs L a ccd cl outer) (call (.ref 77) [.str (tx l) t]) Q E s := by
  have hp2 := plain_amp l hp
  refine wpAny_call ?_
  k_dflt ktr_enter
  refine tok_gen (Nat.le_add_left 1 _) ?_
  intro tk htk
  k_steps
  all_goals (first | exact ret _ _ _ (by k_asm) (by k_asm) | (rw [not_amp (by assumption)]; exact ret _ _ _ (by k_asm) (by k_asm)))
end
end
end Mine
end S_E1
section S_E2
open PySem PySem.W PyProof.Rows
namespace Mine
example (w : World) : (fun (_ : Frag) (_ : OpenLaw) => True) (Mine.hd.heap_39 w.params) PySem.Challenge.rw_tr0035_01 := by k_fill; trivial
example : True := by w_top off; trivial
set_option linter.unusedVariables false
set_option maxRecDepth 100000
set_option maxHeartbeats 8000000
section
variable {w : World} {mean : ExcName → Option Value} {mg mb : Str → Option Value} {dp un : Nat} {gd : Option (List Code)} {cn : Str} {cs : Scope} {a : Addr} {ccd : Value} {cl : List (Str × Addr)} {outer : List Env} {A₀ : Around} {base h₀ : Heap} {L : Addr} {m : Str → Option Value} {news : List (Addr × Obj)} {s : Shared} {Q E : Value → Shared → Prop}
section
local macro_rules | `(tactic| walk_at "compareOp In str str") => `(tactic| (k_here; first | refine in_lit true (by decide +kernel) ?_ | refine in_lit false (by decide +kernel) ?_))
local macro_rules | `(tactic| walk_at "call builtin:str.replace") => `(tactic| (k_here; first | refine repl_lit (r := tx [38, 108, 116, 59]) (by decide +kernel) (by decide +kernel) (by decide +kernel) (by decide +kernel) (by omega) (by omega) ?_ | refine repl_lit (r := tx [38, 103, 116, 59]) (by decide +kernel) (by decide +kernel) (by decide +kernel) (by decide +kernel) (by omega) (by omega) ?_; intro t' k'))
local macro_rules | `(tactic| walk_at "pad none") => `(tactic| skip)
theorem esc49_lt {t : Tok} (B : Below A₀ base outer h₀) (F : Fr h₀ L s.heap m) (X : (Mine.hd.heap_39 w.params).In h₀) (N : News h₀ L s.heap news) (T : Top VW (looseW VW []) mean mg mb h₀) (hk : cs.kind = .function) (hd : dp + 10 < recursionLimit) (hu : un + 80 < cLine)
    (ret : ∀ t' h' tk', Fr h₀ L h' m → News h₀ L h' news → Q (.str (tx [38, 108, 116, 59]) t') { s with heap := h', toks := tk' }) :
    wpAny (model PG w) (ktrTop dp un gd cn cs L a ccd cl outer) (call (.ref 49) [.str (Str.ofString "<") t]) Q E s := by
  refine wpAny_call ?_
  k_dflt ktr_enter
  refine tok_gen (Nat.le_add_left 1 _) ?_
  intro tk htk
  k_steps
  all_goals exact ret _ _ _ (by k_asm) (by k_asm)
theorem esc63_gt {t : Tok} (B : Below A₀ base outer h₀) (F : Fr h₀ L s.heap m) (X : (Mine.hd.heap_39 w.params).In h₀) (N : News h₀ L s.heap news) (T : Top VW (looseW VW []) mean mg mb h₀) (hk : cs.kind = .function) (hd : dp + 10 < recursionLimit) (hu : un + 80 < cLine)
    (ret : ∀ t' h' tk', Fr h₀ L h' m → News h₀ L h' news → Q (.str (tx [38, 103, 116, 59]) t') { s with heap := h', toks := tk' }) :
    wpAny (model PG w) (ktrTop dp un gd cn cs L a ccd cl outer) (call (.ref 63) [.str (Str.ofString ">") t]) Q E s := by
  refine wpAny_call ?_
  k_dflt ktr_enter
  refine tok_gen (Nat.le_add_left 1 _) ?_
  intro tk htk
  k_steps
  all_goals exact ret _ _ _ (by k_asm) (by k_asm)
end
end
end Mine
end S_E2
end G_E1
section S_C1
open PySem PySem.W PyProof.Rows PySem.Calls PyProof.V PySem.Spec
namespace Mine
section
variable {prog : Program} {w : World} {A : Around} {E : Value → Shared → Prop} {s : Shared} {env : Env} {h₀ : Heap} {x : Str} {body : List Stmt} {Q : Flow → Shared → Prop}
/-- a loop over a range by ones, by what holds at each turn's number -/
theorem iter_rangeJ {r : Addr} {a₀ b₀ : Int} {t₀ u₀ v₀ : Tok} {n : Nat} {m₀ : Str → Option Value} {news : List (Addr × Obj)}
    (J : Nat → (Str → Option Value) → List (Addr × Obj) → Prop)
    (hh : A.handled = none) (hr : IsRange s.heap r a₀ b₀ 1 t₀ u₀ v₀) (hsmall : Builtin.Range.small a₀ b₀ 1 = true) (hn : Builtin.Range.rangeSize a₀ b₀ 1 = (n : Int)) (F : Fr h₀ env.locals s.heap m₀) (N : News h₀ env.locals s.heap news) (hj : J 0 m₀ news)
    (turn : ∀ (i : Nat) t m₁ nx h tk own, i < n → nx.map (·.1) = news.map (·.1) → OwnOff own (news.map (·.1)) → J i m₁ nx → Fr h₀ env.locals h (fun y => if y = x then some (.int (a₀ + (i : Int)) t) else m₁ y) → News h₀ env.locals h (nx ++ own) →
      wpAny (model prog w) A (execs body env) (InvPostN h₀ env.locals (J (i + 1)) own (news.map (·.1)) { s with heap := h, toks := tk } Q) E { s with heap := h, toks := tk })
    (done : ∀ m₁ nx h tk, J n m₁ nx → Fr h₀ env.locals h m₁ → News h₀ env.locals h nx → Q .next { s with heap := h, toks := tk }) :
    wpAny (model prog w) A (pyIter (.ref r)) (fun it s₂ => LoopAtV prog w A h₀ env x body Q E it s₂) E s := by
  refine wpAny_pyIter_range hr hsmall ?_
  have W : Walks prog w A s.heap.objs.size [s.heap.objs.size] [s.heap.objs.size] n (fun i v => i < n ∧ ∃ t, v = .int (a₀ + i * 1) t)
      (fun i h => IsRangeIter h s.heap.objs.size (a₀ + (i : Nat) * 1) ((n : Int) - (i : Nat)) 1) := (Walks.range hh _ a₀ 1 n).bound
  refine loop_invN J W ?_ ?_ ?_ ?_ (by show IsRangeIter _ _ _ _ _; rw [hn]; simpa using Heap.get?_push_size _ rfl) (F.push _) (fun p hp => ⟨Heap.get?_push_of_some _ (N p hp).1, (N p hp).2⟩) hj ?_ ?_
  · intro hm
    exact absurd F.ns.lt ((List.mem_singleton.mp hm) ▸ Nat.lt_irrefl _)
  · intro b hb
    rw [List.mem_singleton.mp hb]
    exact next_is_new F
  · intro p hp hI
    exact absurd (Heap.lt_size (N p hp).1) ((List.mem_singleton.mp hI) ▸ Nat.lt_irrefl _)
  · intro p hp hI
    exact absurd (Heap.lt_size (N p hp).1) ((List.mem_singleton.mp hI) ▸ Nat.lt_irrefl _)
  · rintro i v m₁ nx h tk own hi ⟨_, t, rfl⟩ ha ho hJ F' N'
    rw [Int.mul_one] at F'
    exact turn i t m₁ nx h tk own hi ha ho hJ F' N'
  · exact done
theorem map2 {y y' : Str} {m₁ m₀ : Str → Option Value} {u u' : Value} (ha : m₁ y = some u) (hb : m₁ y' = some u') (hm : ∀ z, z ≠ y → z ≠ y' → m₁ z = m₀ z) :
    m₁ = fun z => if z = y then some u else if z = y' then some u' else m₀ z := by
  funext z
  by_cases h2 : z = y
  · subst h2; simp [ha]
  · simp only [if_neg h2]
    by_cases h3 : z = y'
    · subst h3; simp [hb]
    · simp only [if_neg h3]; exact hm z h2 h3
theorem map_three {x y y' y'' : Str} {m₁ m₀ : Str → Option Value} {v u u' u'' : Value} (ha : m₁ y = some u) (hb : m₁ y' = some u') (hc : m₁ y'' = some u'') (hm : ∀ z, z ≠ x → z ≠ y → z ≠ y' → z ≠ y'' → m₁ z = m₀ z) :
    (fun z => if z = x then some v else m₁ z) = fun z => if z = x then some v else if z = y then some u else if z = y' then some u' else if z = y'' then some u'' else m₀ z := by
  funext z
  by_cases h1 : z = x
  · simp [h1]
  · simp only [if_neg h1]
    by_cases h2 : z = y
    · subst h2; simp [ha]
    · simp only [if_neg h2]
      by_cases h3 : z = y'
      · subst h3; simp [hb]
      · simp only [if_neg h3]
        by_cases h4 : z = y''
        · subst h4; simp [hc]
        · simp only [if_neg h4]; exact hm z h1 h2 h3 h4

/-- one name that the loop turns -/
theorem iter_range1 {α : Type} (mk : α → Tok → Value) (st : Nat → α) {r : Addr} {a₀ b₀ : Int} {t₀ u₀ v₀ : Tok} {n : Nat} {m₀ : Str → Option Value} {news : List (Addr × Obj)} {y : Str}
    (hh : A.handled = none) (hr : IsRange s.heap r a₀ b₀ 1 t₀ u₀ v₀) (hsmall : Builtin.Range.small a₀ b₀ 1 = true) (hn : Builtin.Range.rangeSize a₀ b₀ 1 = (n : Int)) (F : Fr h₀ env.locals s.heap m₀) (N : News h₀ env.locals s.heap news)
    (hy : ∃ t, m₀ y = some (mk (st 0) t))
    (turn : ∀ (i : Nat) t ta h tk own, i < n → OwnOff own (news.map (·.1)) → Fr h₀ env.locals h (fun z => if z = x then some (.int (a₀ + (i : Int)) t) else if z = y then some (mk (st i) ta) else m₀ z) → News h₀ env.locals h (news ++ own) →
      wpAny (model prog w) A (execs body env) (InvPostN h₀ env.locals (fun m' nx => nx = news ∧ (∃ t', m' y = some (mk (st (i + 1)) t')) ∧ ∀ z, z ≠ x → z ≠ y → m' z = m₀ z) own (news.map (·.1)) { s with heap := h, toks := tk } Q) E { s with heap := h, toks := tk })
    (done : ∀ (u : Str → Option Value) t h tk, Fr h₀ env.locals h (fun z => if z = x then u z else if z = y then some (mk (st n) t) else m₀ z) → News h₀ env.locals h news → Q .next { s with heap := h, toks := tk }) :
    wpAny (model prog w) A (pyIter (.ref r)) (fun it s₂ => LoopAtV prog w A h₀ env x body Q E it s₂) E s := by
  refine iter_rangeJ (fun i m' nx => nx = news ∧ (∃ t', m' y = some (mk (st i) t')) ∧ ∀ z, z ≠ x → z ≠ y → m' z = m₀ z) hh hr hsmall hn F N ⟨rfl, hy, fun _ _ _ => rfl⟩ ?_ ?_
  · rintro i t m₁ nx h tk own hi _ ho ⟨rfl, ⟨ta, ha⟩, hm⟩ F' N'
    rw [map_one ha hm] at F'
    exact turn i t ta h tk own hi ho F' N'
  · rintro m₁ nx h tk ⟨rfl, ⟨t, ha⟩, hm⟩ F' N'
    rw [← done_one ha hm] at F'
    exact done m₁ t h tk F' N'
/-- two names that the loop turns -/
theorem iter_range2 {α β : Type} (mk : α → Tok → Value) (mk' : β → Tok → Value) (st : Nat → α) (st' : Nat → β) {r : Addr} {a₀ b₀ : Int} {t₀ u₀ v₀ : Tok} {n : Nat} {m₀ : Str → Option Value} {news : List (Addr × Obj)} {y y' : Str}
    (hh : A.handled = none) (hr : IsRange s.heap r a₀ b₀ 1 t₀ u₀ v₀) (hsmall : Builtin.Range.small a₀ b₀ 1 = true) (hn : Builtin.Range.rangeSize a₀ b₀ 1 = (n : Int)) (F : Fr h₀ env.locals s.heap m₀) (N : News h₀ env.locals s.heap news)
    (hy : ∃ t, m₀ y = some (mk (st 0) t)) (hy' : ∃ t, m₀ y' = some (mk' (st' 0) t))
    (turn : ∀ (i : Nat) t ta tb h tk own, i < n → OwnOff own (news.map (·.1)) → Fr h₀ env.locals h (fun z => if z = x then some (.int (a₀ + (i : Int)) t) else if z = y then some (mk (st i) ta) else if z = y' then some (mk' (st' i) tb) else m₀ z) → News h₀ env.locals h (news ++ own) →
      wpAny (model prog w) A (execs body env) (InvPostN h₀ env.locals (fun m' nx => nx = news ∧ (∃ t', m' y = some (mk (st (i + 1)) t')) ∧ (∃ t', m' y' = some (mk' (st' (i + 1)) t')) ∧ ∀ z, z ≠ x → z ≠ y → z ≠ y' → m' z = m₀ z) own (news.map (·.1)) { s with heap := h, toks := tk } Q) E { s with heap := h, toks := tk })
    (done : ∀ (u : Str → Option Value) t t' h tk, Fr h₀ env.locals h (fun z => if z = x then u z else if z = y then some (mk (st n) t) else if z = y' then some (mk' (st' n) t') else m₀ z) → News h₀ env.locals h news → Q .next { s with heap := h, toks := tk }) :
    wpAny (model prog w) A (pyIter (.ref r)) (fun it s₂ => LoopAtV prog w A h₀ env x body Q E it s₂) E s := by
  refine iter_rangeJ (fun i m' nx => nx = news ∧ (∃ t', m' y = some (mk (st i) t')) ∧ (∃ t', m' y' = some (mk' (st' i) t')) ∧ ∀ z, z ≠ x → z ≠ y → z ≠ y' → m' z = m₀ z) hh hr hsmall hn F N ⟨rfl, hy, hy', fun _ _ _ _ => rfl⟩ ?_ ?_
  · rintro i t m₁ nx h tk own hi _ ho ⟨rfl, ⟨ta, ha⟩, ⟨tb, hb⟩, hm⟩ F' N'
    rw [map_two ha hb hm] at F'
    exact turn i t ta tb h tk own hi ho F' N'
  · rintro m₁ nx h tk ⟨rfl, ⟨t, ha⟩, ⟨t', hb⟩, hm⟩ F' N'
    rw [← done_two ha hb hm] at F'
    exact done m₁ t t' h tk F' N'
end

section
variable {prog : Program} {w : World} {A : Around} {E : Value → Shared → Prop} {s : Shared}
/-- plan // 5 ** k: some int -/
theorem div_any {p b : Int} {t u : Tok} {Q : Value → Shared → Prop} (hb : 0 < b ∧ b < 1000000) (h : ∀ q, Q (.int q s.toks) { s with toks := s.toks + 1 }) :
    wpAny (model prog w) A (binaryOp .FloorDiv (.int p t) (.int b u)) Q E s :=
  floordiv_int (by omega) (h _) (.inl (PyProof.noPylong_small (by omega)))
theorem mod5r {a : Int} {t u : Tok} {Q : Value → Shared → Prop} (h : ∀ r : Nat, r < 5 → Q (.int (r : Int) s.toks) { s with toks := s.toks + 1 }) :
    wpAny (model prog w) A (binaryOp .Mod (.int a t) (.int 5 u)) Q E s := by
  refine mod_int (by decide) ?_
  have e : Int.fmod a 5 = ((a % 5).toNat : Int) := by
    rw [Int.fmod_eq_emod_of_nonneg _ (by decide)]
    omega
  rw [e]
  exact h _ (by omega)
theorem add_tx {l k : List Nat} {t u : Tok} {Q : Value → Shared → Prop} (h : ∀ t' tk, Q (.str (tx (l ++ k)) t') { s with toks := tk }) (hl : l.length ≤ 100000) (hk : k.length ≤ 100000) :
    wpAny (model prog w) A (binaryOp .Add (.str (tx l) t) (.str (tx k) u)) Q E s := by
  refine add_str ?_ (by rw [tx_len, tx_len, sizeLine_eq]; omega)
  intro t' tk
  rw [tx_app]
  exact h t' tk
theorem pow5_ok {i : Nat} (h : i < 6) : (0 : Int) < 5 ^ (0 + (i : Int)).toNat ∧ (5 : Int) ^ (0 + (i : Int)).toNat < 1000000 := by
  have e : (0 + (i : Int)).toNat = i := by omega
  rw [e]
  have : i = 0 ∨ i = 1 ∨ i = 2 ∨ i = 3 ∨ i = 4 ∨ i = 5 := by omega
  rcases this with rfl | rfl | rfl | rfl | rfl | rfl <;> decide
end

section
variable {prog : Program} {w : World} {A : Around} {E : Value → Shared → Prop} {Q : Flow → Shared → Prop} {s : Shared} {env : Env} {h₀ : Heap} {L : Addr}
noncomputable def W2 (m₀ : Str → Option Value) (y y' : Str) (J : Nat → Value → Value → List (Addr × Obj) → Prop) (n : Nat) (m' : Str → Option Value) (nx : List (Addr × Obj)) : Prop :=
  ∃ u u', m' y = some u ∧ m' y' = some u' ∧ (∀ z, z ≠ y → z ≠ y' → m' z = m₀ z) ∧ J n u u' nx
/-- a while that turns the ledger alone -/
theorem while0 {test : PySem.Expr} {body : List Stmt} {pos : Pos} {m₀ : Str → Option Value} {news : List (Addr × Obj)} (J : Nat → List (Addr × Obj) → Prop) {n₀ : Nat}
    (F : Fr h₀ L s.heap m₀) (N : News h₀ L s.heap news) (hJ : J n₀ news)
    (turn : ∀ n nx h₁ tk₁, J n nx → Fr h₀ L h₁ m₀ → News h₀ L h₁ nx →
      wpAny (model prog w) A (isTrue test env (eval test env)) (fun b s₂ =>
        if b = true then wpAny (model prog w) A (execs body env) (WhileStep h₀ L s (fun n' m' nx' => m' = m₀ ∧ J n' nx') n) E s₂ else Q .next s₂) E { s with heap := h₁, toks := tk₁ })
    (hE : PassesOwn (model prog w) A env E := by passes_own) :
    wpAny (model prog w) A (exec (.While test body [] pos) env) Q E s := by
  refine While_inv (fun n' m' nx' => m' = m₀ ∧ J n' nx') F N ⟨rfl, hJ⟩ ?_ hE
  rintro n m₁ news₁ h₁ tk₁ F₁ N₁ ⟨rfl, hJ'⟩
  exact turn n news₁ h₁ tk₁ hJ' F₁ N₁
/-- a while that turns two names and the ledger, by a measure -/
theorem while2 {test : PySem.Expr} {body : List Stmt} {pos : Pos} {m₀ : Str → Option Value} {news : List (Addr × Obj)} {y y' : Str} (J : Nat → Value → Value → List (Addr × Obj) → Prop) {n₀ : Nat} {u₀ u₀' : Value}
    (F : Fr h₀ L s.heap m₀) (N : News h₀ L s.heap news) (hy : m₀ y = some u₀) (hy' : m₀ y' = some u₀') (hJ : J n₀ u₀ u₀' news)
    (turn : ∀ n u u' nx h₁ tk₁, J n u u' nx → Fr h₀ L h₁ (fun z => if z = y then some u else if z = y' then some u' else m₀ z) → News h₀ L h₁ nx →
      wpAny (model prog w) A (isTrue test env (eval test env)) (fun b s₂ =>
        if b = true then wpAny (model prog w) A (execs body env) (WhileStep h₀ L s (W2 m₀ y y' J) n) E s₂ else Q .next s₂) E { s with heap := h₁, toks := tk₁ })
    (hE : PassesOwn (model prog w) A env E := by passes_own) :
    wpAny (model prog w) A (exec (.While test body [] pos) env) Q E s := by
  refine While_inv (W2 m₀ y y' J) F N ⟨_, _, hy, hy', fun _ _ _ => rfl, hJ⟩ ?_ hE
  rintro n m₁ news₁ h₁ tk₁ F₁ N₁ ⟨u, u', ha, hb, hm, hJ'⟩
  rw [map2 ha hb hm] at F₁
  exact turn n u u' news₁ h₁ tk₁ hJ' F₁ N₁
end
end Mine
end S_C1
section S_PG
open PySem PySem.W PyProof.Rows
namespace Mine
noncomputable def ampN : Nat → List Nat → List Nat
  | 0, l => l
  | n + 1, l => ampL (ampN n l)
noncomputable def ltL : List Nat := [38, 108, 116, 59]
noncomputable def gtL : List Nat := [38, 103, 116, 59]
noncomputable def gst (f s : Nat) : Nat → List Nat × List Nat
  | 0 => (ampN f ltL, ampN s gtL)
  | i + 1 => ((gst f s i).2, ampL (gst f s i).2 ++ (gst f s i).1)
noncomputable def fits (l : List Nat) : Bool := plainL l && Nat.ble l.length 6000
theorem fits_of {l : List Nat} (h : fits l = true) : plainL l = true ∧ l.length ≤ 6000 := by
  have h' := Bool.and_eq_true_iff.mp h
  exact ⟨h'.1, Nat.le_of_ble_eq_true h'.2⟩
theorem ampN_ok : ∀ i, i < 3 → fits (ampN i ltL) = true ∧ fits (ampN i gtL) = true := by decide +kernel
theorem gst_ok : ∀ f, f < 4 → ∀ s, s < 4 → ∀ i, i < 6 → fits (gst f s i).2 = true ∧ fits (gst f s i).1 = true := by decide +kernel
noncomputable def txt (l : List Nat) (t : Tok) : Value := .str (tx l) t
end Mine
end S_PG
section S_G0
open PySem PySem.W PyProof.Rows
namespace Mine
example (w : World) : (fun (_ : Frag) (_ : OpenLaw) => True) (Mine.hd.heap_39 w.params) PySem.Challenge.rw_tr0035_01 := by k_fill; trivial
example : True := by w_top off; trivial
set_option linter.unusedVariables false
set_option maxRecDepth 100000
set_option maxHeartbeats 8000000
section
variable {w : World} {mean : ExcName → Option Value} {mg mb : Str → Option Value} {dp un : Nat} {gd : Option (List Code)} {cn : Str} {cs : Scope} {a : Addr} {ccd : Value} {cl : List (Str × Addr)} {outer : List Env} {A₀ : Around} {base h₀ : Heap} {L : Addr} {m : Str → Option Value} {news : List (Addr × Obj)} {s : Shared} {Q E : Value → Shared → Prop}
noncomputable def IsHand (f : Addr) : Prop := f = 49 ∨ f = 56 ∨ f = 63 ∨ f = 70 ∨ f = 77
theorem hand_keep {f : Addr} (h : IsHand f) : keepIn (Mine.hd.heap_39 w.params) (.ref f) = true := by
  rcases h with rfl | rfl | rfl | rfl | rfl <;> kernel_rfl
theorem hand_call {f : Addr} {l : List Nat} {t : Tok} (B : Below A₀ base outer h₀) (F : Fr h₀ L s.heap m) (X : (Mine.hd.heap_39 w.params).In h₀) (N : News h₀ L s.heap news) (T : Top VW (looseW VW []) mean mg mb h₀) (hk : cs.kind = .function) (hd : dp + 10 < recursionLimit) (hu : un + 80 < cLine) (hf : IsHand f) (hp : plainL l = true) (hl : l.length ≤ 6000)
    (ret : ∀ t' h' tk', Fr h₀ L h' m → News h₀ L h' news → Q (.str (tx (ampL l)) t') { s with heap := h', toks := tk' }) :
    wpAny (model PG w) (ktrTop dp un gd cn cs L a ccd cl outer) (call (.ref f) [.str (tx l) t]) Q E s := by
  rcases hf with rfl | rfl | rfl | rfl | rfl
  · exact esc49 B F X N T hk hd hu hp hl ret
  · exact esc56 B F X N T hk hd hu hp hl ret
  · exact esc63 B F X N T hk hd hu hp hl ret
  · exact esc70 B F X N T hk hd hu hp hl ret
  · exact esc77 B F X N T hk hd hu hp hl ret
theorem hand_item {prog : Program} {A : Around} {value slice : PySem.Expr} {l : Addr} {r : Nat} {u : Tok} {led : List (Addr × Obj)} (N : News h₀ L s.heap led) (hm : (l, W.listOf #[.ref 49, .ref 56, .ref 63, .ref 70, .ref 77] 0) ∈ led) (hr : r < 5)
    (h : ∀ f, IsHand f → Q (.ref f) s)
    (hs : subscripted slice false (.ref l) (.int r u) = operate [.ref l, .int r u] (getItem (.ref l) (.int r u)) := by with_unfolding_all rfl) :
    wpAny (model prog w) A (subscriptTail value slice (.ref l) (.int r u)) Q E s := by
  have hL : s.heap.IsList l #[.ref 49, .ref 56, .ref 63, .ref 70, .ref 77] := ⟨_, (N _ hm).1, rfl, 0, rfl⟩
  have : r = 0 ∨ r = 1 ∨ r = 2 ∨ r = 3 ∨ r = 4 := by omega
  rcases this with rfl | rfl | rfl | rfl | rfl
  · exact tail_any hL.typeIs slot_list_getitem.lookup (wpAny_getItem_list hL (by decide) (by decide) rfl (h _ (.inl rfl))) hs
  · exact tail_any hL.typeIs slot_list_getitem.lookup (wpAny_getItem_list hL (by decide) (by decide) rfl (h _ (.inr (.inl rfl)))) hs
  · exact tail_any hL.typeIs slot_list_getitem.lookup (wpAny_getItem_list hL (by decide) (by decide) rfl (h _ (.inr (.inr (.inl rfl))))) hs
  · exact tail_any hL.typeIs slot_list_getitem.lookup (wpAny_getItem_list hL (by decide) (by decide) rfl (h _ (.inr (.inr (.inr (.inl rfl)))))) hs
  · exact tail_any hL.typeIs slot_list_getitem.lookup (wpAny_getItem_list hL (by decide) (by decide) rfl (h _ (.inr (.inr (.inr (.inr rfl)))))) hs
end
end Mine
end S_G0
section S_G1
open PySem PySem.W PyProof.Rows
namespace Mine
example (w : World) : (fun (_ : Frag) (_ : OpenLaw) => True) (Mine.hd.heap_39 w.params) PySem.Challenge.rw_tr0035_01 := by k_fill; trivial
example : True := by w_top off; trivial
set_option linter.unusedVariables false
set_option maxRecDepth 100000
set_option maxHeartbeats 8000000
section
variable {w : World} {mean : ExcName → Option Value} {mg mb : Str → Option Value} {dp un : Nat} {gd : Option (List Code)} {cn : Str} {cs : Scope} {a : Addr} {ccd : Value} {cl : List (Str × Addr)} {outer : List Env} {A₀ : Around} {base h₀ : Heap} {L : Addr} {m : Str → Option Value} {news : List (Addr × Obj)} {s : Shared} {Q E : Value → Shared → Prop}
section
local macro_rules | `(tactic| walk_at "pyIter ref") => `(tactic| (k_here; refine hold_of ?_))
local macro_rules | `(tactic| walk_at "binaryOp FloorDiv int int") => `(tactic| (k_here; refine div_any (pow5_ok (by omega)) ?_; intro q9; (try dsimp only)))
local macro_rules | `(tactic| walk_at "binaryOp Mod int int") => `(tactic| (k_here; refine mod5r ?_; intro r9 hr9; (try dsimp only)))
local macro_rules | `(tactic| walk_at "binaryOp Add str str") => `(tactic| (k_here; refine add_tx ?_ (by assumption) (by assumption); intro t9 tk9; (try dsimp only)))
local macro_rules | `(tactic| walk_at "subscriptTail") => `(tactic| (k_here; (with_reducible show wpAny _ _ (subscriptTail _ _ (Value.ref _) (Value.int _ _)) _ _ _); k_dflt (refine' hand_item ?kN ?km ?kr ?_ ?ks; (case kN => k_asm); (case km => k_mem); (case kr => assumption); (case ks => with_unfolding_all rfl); intro f9 hf9; (try dsimp only))))
local macro_rules | `(tactic| walk_at "callWith ref") => `(tactic| (k_here; k_dflt (refine' callWith_K ?k1 ?k2 ?_; (case k1 => k_asm); (case k2 => exact hand_keep (by assumption)); k_whole)))
local macro_rules | `(tactic| walk_at "call ref") => `(tactic| (k_here; k_dflt (first
  | (refine hand_call (by k_asm) (by k_asm) (by k_asm) (by k_asm) (by k_asm) (by first | exact rfl | assumption) (by ktr_room) (by ktr_units) (by assumption) (by assumption) (by assumption) ?_; intro t9 h9 tk9 F9 N9; (try dsimp only))
  | (refine esc49_lt (by k_asm) (by k_asm) (by k_asm) (by k_asm) (by k_asm) (by first | exact rfl | assumption) (by ktr_room) (by ktr_units) ?_; intro t9 h9 tk9 F9 N9; (try dsimp only))
  | (refine esc63_gt (by k_asm) (by k_asm) (by k_asm) (by k_asm) (by k_asm) (by first | exact rfl | assumption) (by ktr_room) (by ktr_units) ?_; intro t9 h9 tk9 F9 N9; (try dsimp only)))))
theorem grown {n f s0 : Nat} {plan : Int} {t1 t2 t3 t4 : Tok} (B : Below A₀ base outer h₀) (F : Fr h₀ L s.heap m) (X : (Mine.hd.heap_39 w.params).In h₀) (N : News h₀ L s.heap news) (T : Top VW (looseW VW []) mean mg mb h₀) (hk : cs.kind = .function) (hd : dp + 30 < recursionLimit) (hu : un + 280 < cLine)
    (hn1 : 4 ≤ n) (hn2 : n ≤ 7) (hf : f ≤ 3) (hs : s0 ≤ 3) (hp1 : 0 ≤ plan)
    (ret : ∀ t' h' tk', Fr h₀ L h' m → News h₀ L h' news → Q (.str (tx (gst f s0 (n - 1)).2) t') { s with heap := h', toks := tk' }) :
    wpAny (model PG w) (ktrTop dp un gd cn cs L a ccd cl outer) (call (.ref 91) [.int n t1, .int f t2, .int s0 t3, .int plan t4]) Q E s := by
  refine wpAny_call ?_
  k_dflt ktr_enter
  k_steps
  refine of_hold ?_
  (rename Fr _ _ _ _ => lF'); (rename News _ _ _ _ => lN'); (rename IsRange _ _ _ _ _ _ _ _ => rgX)
  refine iter_range1 (y := Str.ofString "older") (n := f) (fun l t => Value.str (tx l) t) (fun i => ampN i ltL) (by rfl) rgX (small_one (by decide) (by decide) (by omega) (by omega)) (by rw [rangeSize_nat]; omega) lF' lN' ⟨_, rfl⟩ ?_ ?_
  · intro i t ta h tk own hi hoff F' N'
    clear lF' lN' rgX
    obtain ⟨hfa, hfb⟩ := fits_of (ampN_ok i (by omega)).1
    (try dsimp only at F')
    k_steps
    all_goals (refine InvEndN.intro (by assumption) (by assumption) ⟨rfl, ⟨_, rfl⟩, ?_⟩ rfl (fun p hp => List.mem_append.mpr (.inl hp)) (fun p hp => List.mem_append.mpr (.inr hp)); intro z h1 h2; simp only [h1, h2, if_false])
  intro u t h tk F' N'
  clear lF' lN' rgX
  k_steps
  refine of_hold ?_
  (rename Fr _ _ _ _ => lF'); (rename News _ _ _ _ => lN'); (rename IsRange _ _ _ _ _ _ _ _ => rgX)
  refine iter_range1 (y := Str.ofString "newer") (n := s0) (fun l t => Value.str (tx l) t) (fun i => ampN i gtL) (by rfl) rgX (small_one (by decide) (by decide) (by omega) (by omega)) (by rw [rangeSize_nat]; omega) lF' lN' ⟨_, rfl⟩ ?_ ?_
  · intro i t ta h tk own hi hoff F' N'
    clear lF' lN' rgX
    obtain ⟨hfa, hfb⟩ := fits_of (ampN_ok i (by omega)).2
    (try dsimp only at F')
    k_steps
    all_goals (refine InvEndN.intro (by assumption) (by assumption) ⟨rfl, ⟨_, rfl⟩, ?_⟩ rfl (fun p hp => List.mem_append.mpr (.inl hp)) (fun p hp => List.mem_append.mpr (.inr hp)); intro z h1 h2; simp only [h1, h2, if_false])
  intro u t h tk F' N'
  clear lF' lN' rgX
  k_steps
  refine of_hold ?_
  (rename Fr _ _ _ _ => lF'); (rename News _ _ _ _ => lN'); (rename IsRange _ _ _ _ _ _ _ _ => rgX)
  refine iter_range2 (y := Str.ofString "older") (y' := Str.ofString "newer") (n := n - 1) (fun l t => Value.str (tx l) t) (fun l t => Value.str (tx l) t) (fun i => (gst f s0 i).1) (fun i => (gst f s0 i).2) (by rfl) rgX (small_one (by decide) (by decide) (by omega) (by omega)) (by rw [rangeSize_nat]; omega) lF' lN' ⟨_, rfl⟩ ⟨_, rfl⟩ ?_ ?_
  · intro i t ta tb h tk own hi hoff F' N'
    clear lF' lN' rgX
    obtain ⟨hfa, hfb⟩ := fits_of (gst_ok f (by omega) s0 (by omega) i (by omega)).1
    obtain ⟨hga, hgb⟩ := fits_of (gst_ok f (by omega) s0 (by omega) i (by omega)).2
    have hgl : (ampL (gst f s0 i).2).length ≤ 100000 := by have := amp_len (gst f s0 i).2; omega
    have hgm : (gst f s0 i).1.length ≤ 100000 := by omega
    (try dsimp only at F')
    k_steps
    all_goals (refine InvEndN.intro (by assumption) (by assumption) ⟨rfl, ⟨_, rfl⟩, ⟨_, rfl⟩, ?_⟩ rfl (fun p hp => List.Mem.tail _ (List.mem_append.mpr (.inl hp))) (fun p hp => List.Mem.tail _ (List.mem_append.mpr (.inr hp))); intro z h1 h2 h3; simp only [h1, h2, h3, if_false])
  intro u t t' h tk F' N'
  clear lF' lN' rgX
  k_steps
  exact ret _ _ _ (by k_asm) (news_sub (by k_asm) (fun p hp => List.Mem.tail _ hp))
end
end
end Mine
end S_G1
section S_PV
open PySem PySem.W PyProof.Rows
namespace Mine
noncomputable def vgo (val b : Int) : List Int → Option (Int × List Int)
  | [] => if Builtin.bitAnd b 64 = 0 then some (val, []) else none
  | c :: r => if Builtin.bitAnd b 64 = 0 then some (val, c :: r) else if val.natAbs < 2 ^ 40 then vgo (Builtin.bitOr (val * 2 ^ (6 : Int).toNat) (Builtin.bitAnd c 63)) c r else none
noncomputable def vread : List Int → Option (Int × List Int)
  | [] => none
  | c :: r => vgo (Builtin.bitAnd c 63) c r
inductive Parsed : List Int → List Int → Prop where
  | nil : Parsed [] []
  | cons {l r : List Int} {v : Int} {vs : List Int} : vread l = some (v, r) → Parsed r vs → Parsed l (v :: vs)
theorem vgo_shrinks : ∀ (l : List Int) (val b v : Int) (r : List Int), vgo val b l = some (v, r) → r.length ≤ l.length
  | [], val, b, v, r, h => by
    simp only [vgo] at h
    split at h <;> simp at h
    rw [← h.2]; exact Nat.le_refl _
  | c :: t, val, b, v, r, h => by
    simp only [vgo] at h
    split at h
    · simp at h; rw [← h.2]; exact Nat.le_refl _
    · split at h
      · exact Nat.le_succ_of_le (vgo_shrinks t _ _ _ _ h)
      · cases h
theorem vread_shrinks {l r : List Int} {v : Int} (h : vread l = some (v, r)) : r.length < l.length := by
  cases l with
  | nil => cases h
  | cons c t => exact Nat.lt_succ_of_le (vgo_shrinks t _ _ _ _ h)
theorem drop_get {cs r : List Int} {i : Nat} {c : Int} (h : cs.drop i = c :: r) : cs[i]? = some c ∧ cs.drop (i + 1) = r := by
  constructor
  · have := congrArg List.head? h
    rw [List.head?_drop] at this
    exact this
  · rw [← List.drop_drop, h]; rfl
theorem vgo_stop {val b v : Int} {l r : List Int} (hb : Builtin.bitAnd b 64 = 0) (h : vgo val b l = some (v, r)) : val = v ∧ l = r := by
  cases l with
  | nil => simp only [vgo, hb, if_true] at h; simpa using h
  | cons c t => simp only [vgo, hb, if_true] at h; simpa using h
theorem vgo_more {val b v : Int} {l r : List Int} (hb : Builtin.bitAnd b 64 ≠ 0) (h : vgo val b l = some (v, r)) :
    ∃ c t, l = c :: t ∧ val.natAbs < 2 ^ 64 ∧ vgo (Builtin.bitOr (val * 2 ^ (6 : Int).toNat) (Builtin.bitAnd c 63)) c t = some (v, r) := by
  cases l with
  | nil => simp only [vgo, if_neg hb] at h; cases h
  | cons c t =>
    simp only [vgo, if_neg hb] at h
    by_cases hv : val.natAbs < 2 ^ 40
    · rw [if_pos hv] at h
      exact ⟨c, t, rfl, by omega, h⟩
    · rw [if_neg hv] at h; cases h
end Mine
end S_PV
section S_C2
open PySem PySem.W PyProof.Rows PySem.Calls PyProof.V PySem.Spec
namespace Mine
noncomputable def itO (l : Addr) (i : Nat) : Obj := { cls := .type "list_iterator", data := .fields #[.ref l, .int i 0] }
section
variable {prog : Program} {w : World} {A : Around} {E : Value → Shared → Prop} {s : Shared} {h₀ : Heap} {L it l : Addr} {m : Str → Option Value} {news : List (Addr × Obj)} {g : Obj → List (Addr × Obj)} {i ep : Nat} {vs : Array Value} {cs : List Int}
theorem next_special {items : Array Value} {x : Value} {Q : Option Value → Shared → Prop} (ho : s.heap.get? it = some (itO l i))
    (hl : s.heap.IsList l items) (hx : items[i]? = some x)
    (hQ : ∀ h', h'.get? it = some (itO l (i + 1)) → Heap.SameBut it s.heap h' → Q (some x) { s with heap := h' }) :
    wpAny (model prog w) A (callSpecial? (.ref it) (Str.ofString "__next__")) Q E s := by
  have hit : s.heap.IsListIter it l i := ⟨_, ho, rfl, rfl⟩
  obtain ⟨ol, hol, _, nl, hdl⟩ := hl
  have hd : (itO l i).data = .fields #[.ref l, .int i 0] := rfl
  refine wpAny_callSpecial?_slot (name := Str.ofString "__next__") hit.typeIs slot_listiter_next
    (wpAny_call_entry slot_listiter_next hit.typeIs entry_listiter_next ?_ (args_listiter_next _))
  show wpAny _ _ (field (.ref it) 0 >>= _) _ _ s
  refine wpAny_bind (wpAny_field ho hd (x := .ref l) rfl ?_)
  show wpAny _ _ (if (Value.ref l == Value.none) = true then _ else _) _ _ s
  rw [if_neg (show ¬ ((Value.ref l == Value.none) = true) from Bool.false_ne_true)]
  show wpAny _ _ (field (.ref it) 1 >>= _) _ _ s
  refine wpAny_bind (wpAny_field ho hd (x := .int i 0) rfl ?_)
  show wpAny _ _ (seqItems? (.ref l) >>= _) _ _ s
  refine wpAny_bind (wpAny_seqItems hol hdl ?_)
  simp only [Int.toNat_natCast, hx]
  refine wpAny_bind (wpAny_setField ho hd (by simp) (wpAny_pure ⟨x, rfl, hQ _ ?_ (Heap.SameBut.update ..)⟩))
  rw [Heap.get?_update_self _ ho (Obj.isFreed_of_fields (Obj.data_mapFields hd _))]
  simp [itO, Obj.mapFields, rawInt]
/-- next(it) of a list's iterator: there is an item -/
theorem next_it {c : Int} {Q : Value → Shared → Prop} (F : Fr h₀ L s.heap m) (N : News h₀ L s.heap news) (U : UpdF it (itO l i) news g) (hl : (l, W.listOf vs ep) ∈ news) (hi : IntsAre vs.toList cs) (hx : cs[i]? = some c)
    (h : ∀ h' t, Fr h₀ L h' m → News h₀ L h' (g (itO l (i + 1))) → Q (.int c t) { s with heap := h' }) :
    wpAny (model prog w) A (call (.builtin "next") [.ref it]) Q E s := by
  obtain ⟨pre, post, hn, hg, a, b⟩ := U.split
  have hmem : (it, itO l i) ∈ news := by rw [hn]; exact List.mem_append_right _ (.head _)
  have hm := N (it, itO l i) hmem
  have hit : s.heap.IsListIter it l i := ⟨_, hm.1, rfl, rfl⟩
  have hL : s.heap.IsList l vs := ⟨_, (N _ hl).1, rfl, ep, rfl⟩
  obtain ⟨t, ht⟩ := hi.get i c hx
  refine call_function_entry (by decide +kernel) (by decide +kernel) kdk_entry_next (kdk_args_next _) ?_
  unfold Builtin.«next»
  refine wpAny_bind (m := someArgs "next" 1 2 _) (wpAny_of_eq (a := [Value.ref it]) (by first | rfl | kernel_rfl!) ?_)
  dsimp only
  refine wpAny_bind (wpAny_specialOf (name := Str.ofString "__next__") hit.typeIs slot_listiter_next.lookup ?_)
  refine wpAny_ite_split (fun hab => absurd hab (by decide)) (fun _ => ?_)
  refine wpAny_bind (next_special hm.1 hL (x := .int c t) (by rw [← Array.getElem?_toList]; exact ht) fun h' ho' hs => ?_)
  refine wpAny_pure ⟨_, rfl, h h' t (F.change hs hm.2.1 hm.2.2) ?_⟩
  rw [hg]
  exact (show News h₀ L s.heap (pre ++ (it, itO l i) :: post) from hn ▸ N).setIn a b hs ho'
end
end Mine
end S_C2
section S_C3
open PySem PySem.W PyProof.Rows PySem.Calls PyProof.V PySem.Spec
namespace Mine
noncomputable def OrdP (v r : Value) : Prop := ∃ c u t, v = .str ⟨#[c]⟩ u ∧ r = .int ((c : Nat) : Int) t
noncomputable def codes (l : List Nat) : List Int := l.map fun c => ((c : Nat) : Int)
theorem ints_of_signs : ∀ (l : List Nat) (vs ys : List Value), vs.length = l.length → (∀ (j : Nat) (v : Value), vs[j]? = some v → ∃ c u, l[j]? = some c ∧ v = .str ⟨#[c]⟩ u) → Paired OrdP vs ys → IntsAre ys (codes l)
  | [], [], _, _, _, .nil => .nil
  | [], _ :: _, _, h, _, _ => by cases h
  | _ :: _, [], _, h, _, _ => by cases h
  | c :: l, v :: vs, _ :: ys, hl, hP, .cons ⟨c', u', t, e1, e2⟩ hr => by
    obtain ⟨c'', u, e3, e4⟩ := hP 0 v rfl
    simp only [List.getElem?_cons_zero, Option.some.injEq] at e3
    subst e3
    rw [e4] at e1
    injection e1 with e5 e6
    injection e5 with e7
    have e8 : c = c' := by simpa using e7
    subst e8
    subst e2
    exact .cons _ t (ints_of_signs l vs ys (by simpa using hl) (fun j v' hv => by simpa using hP (j + 1) v' (by simpa using hv)) hr)
section
variable {prog : Program} {w : World} {A : Around} {E : Value → Shared → Prop} {s : Shared} {h₀ : Heap} {L : Addr} {m : Str → Option Value} {news : List (Addr × Obj)} {env : Env}
/-- [ord(sign) for sign in text] -/
theorem comp_ord {px p1 p2 p3 : Pos} {iter : Expr} {scope : Scope} {pos : Pos} {Q : Value → Shared → Prop} {l : List Nat}
    (hh : A.handled = none) (hfree : ∀ y ∈ scope.names, y.2 ≠ .free) (hcell : ∀ y ∈ scope.names, y.2 ≠ .cell) (hkind : scope.kind = .function)
    (hnames : ∀ y ∈ scope.names, y.2 = .local → scope.names.lookup y.1 = some .local) (hx : scope.names.lookup (Str.ofString "sign") = some .local) (ho : scope.names.lookup (Str.ofString "ord") = some .globalImplicit)
    (F : Fr h₀ L s.heap m) (N : News h₀ L s.heap news) (hsz : l.length ≤ sizeLine) {t : Tok} {mg mb : Str → Option Value}
    (hi : wpAny (model prog w) A (eval iter env) (fun xv s₁ => xv = .str (tx l) t ∧ s₁ = s) E s)
    (hg : s.heap.Ns env.globals mg) (hgo : mg (Str.ofString "ord") = none) (hb : s.heap.Ns env.builtins mb) (hbo : mb (Str.ofString "ord") = some (.builtin "ord"))
    (hQ : ∀ D (ys : List Value) n h' tk, Fr h₀ L h' m → News h₀ L h' ((D, W.listOf ys.toArray n) :: news) → (∀ p ∈ news, p.1 ≠ D) → IntsAre ys (codes l) → Q (.ref D) { s with heap := h', toks := tk })
    (hs : ∀ x, foldedSetIterable iter env x = pure x := by intro _; rfl) :
    wpAny (model prog w) A (eval (.ListComp (.Call (.Name (Str.ofString "ord") p1) [.Name (Str.ofString "sign") p2] [] p3) [⟨.Name (Str.ofString "sign") px, iter, [], 0⟩] scope pos) env) Q E s := by
  refine wpAny_ListComp_walk (fun _ => true) OrdP hfree hcell hkind hnames hx (wpAny_mono hi (fun xv s₁ h₁ => ?_) fun _ _ e => e) hs
  obtain ⟨rfl, rfl⟩ := h₁
  refine wpAny_pyIter_str fun o St W hst => ?_
  have up : ∀ (h' : Heap), (∀ b o', b ∉ [s₁.heap.objs.size] → (s₁.heap.push o).get? b = some o' → h'.get? b = some o') → ∀ b o', s₁.heap.get? b = some o' → h'.get? b = some o' :=
    fun h' hk b o' e => hk b o' (old_not_new e) (Heap.get?_push_of_some _ e)
  refine ⟨s₁.heap.objs.size, [s₁.heap.objs.size], [s₁.heap.objs.size], (tx l).cps.size, SignAt (tx l), St, rfl, W A hh, hsz, hst, ?_, ⟨?_, ?_⟩, ?_⟩
  · intro b hb
    show b < (s₁.heap.push o).objs.size
    rw [Heap.size_push, List.mem_singleton.mp hb]
    exact Nat.lt_succ_self _
  · intro C i v s₃ m₃ E' hP hn hm _ _
    exact wpAny_pure ⟨rfl, s₃.heap, s₃.toks, rfl, fun _ _ e => e⟩
  · intro C i v s₃ m₃ E' hP _ hn hm hk _
    obtain ⟨c, u, _, rfl⟩ := hP
    have hk' := up _ hk
    refine Call_ ?_
    refine Name_function_global hkind ho (loadGlobal_builtin (hg.keeps hk') hgo (hb.keeps hk') hbo ?_) (by decide)
    refine PyProof.Rows.callWith_builtin1 ?_
    refine spliced_cons ?_
    refine wpAny_Name (wpAny_loadName_local hkind hx hn hm ?_) (by decide)
    refine spliced_nil ?_
    refine P.ord_of_char ?_
    exact ⟨⟨c, u, _, rfl, rfl⟩, s₃.heap, _, rfl, fun _ _ e => e⟩
  · intro D h' tk ys vs hnew hlD hplD hlen hP hF hk
    obtain ⟨n, hpn⟩ := hplD
    have hDn : h₀.get? D = none := by
      cases e : h₀.get? D with
      | none => rfl
      | some o' => rw [Heap.get?_push_of_some _ (F.keep _ _ e)] at hnew; cases hnew
    have hne : ∀ p ∈ news, p.1 ≠ D := fun p hp e => by rw [← e, Heap.get?_push_of_some _ (N p hp).1] at hnew; cases hnew
    have F' := F.keeps (up h' hk)
    refine hQ D ys.toList n h' tk F' ?_ hne (ints_of_signs l vs ys.toList (by rw [hlen]; rfl) (fun j v hv => ?_) (by rw [List.filter_eq_self.mpr (fun _ _ => rfl)] at hF; exact hF))
    · intro p hp
      rcases List.mem_cons.mp hp with rfl | hp
      · refine ⟨by rw [Array.toArray_toList]; exact hpn, ?_, hDn⟩
        rintro rfl
        obtain ⟨oL, _, _, hL, _⟩ := F.ns
        rw [Heap.get?_push_of_some _ hL] at hnew
        cases hnew
      · exact ⟨up h' hk _ _ (N p hp).1, (N p hp).2⟩
    · obtain ⟨c, u, hc, rfl⟩ := hP j v hv
      exact ⟨c, u, by simpa [tx] using hc, rfl⟩
theorem isExc_stop : isSubtype (.type "StopIteration") (.type "BaseException") = pure true := by rw [isSubtype_type]; kernel_rfl
theorem notTuple_stop : isSubtype (.type ((Manifest.find? "StopIteration").elim "type" fun y => y.metatype)) (.type "tuple") = pure false := by rw [isSubtype_type]; kernel_rfl
noncomputable def itE : Obj := { cls := .type "list_iterator", data := .fields #[.none, .int 0 0] }
noncomputable def itX (l : Addr) (i : Nat) : Obj := { cls := .type "list_iterator", data := .fields #[.none, .int i 0] }
/-- next(it) of a list's iterator at its end -/
theorem next_stop {it l : Addr} {i ep : Nat} {vs : Array Value} {g : Obj → List (Addr × Obj)} {Q : Value → Shared → Prop} (hh : A.handled = none) (F : Fr h₀ L s.heap m) (N : News h₀ L s.heap news) (U : UpdF it (itO l i) news g) (hl : (l, W.listOf vs ep) ∈ news) (hx : vs.size ≤ i)
    (h : ∀ h₁ h' e, Fr h₀ L h₁ m → News h₀ L h₁ (g (itX l i)) → Heap.NewExc h₁ h' e "StopIteration" → E (.ref e) { s with heap := h' }) :
    wpAny (model prog w) A (call (.builtin "next") [.ref it]) Q E s := by
  obtain ⟨pre, post, hn, hg, a, b⟩ := U.split
  have hmem : (it, itO l i) ∈ news := by rw [hn]; exact List.mem_append_right _ (.head _)
  have hm := N (it, itO l i) hmem
  have hit : s.heap.IsListIter it l i := ⟨_, hm.1, rfl, rfl⟩
  have hol := (N _ hl).1
  have hd : (itO l i).data = .fields #[.ref l, .int i 0] := rfl
  refine call_function_entry (by decide +kernel) (by decide +kernel) kdk_entry_next (kdk_args_next _) ?_
  unfold Builtin.«next»
  refine wpAny_bind (m := someArgs "next" 1 2 _) (wpAny_of_eq (a := [Value.ref it]) (by first | rfl | kernel_rfl!) ?_)
  dsimp only
  refine wpAny_bind (wpAny_specialOf (name := Str.ofString "__next__") hit.typeIs slot_listiter_next.lookup ?_)
  refine wpAny_ite_split (fun hab => absurd hab (by decide)) (fun _ => ?_)
  refine wpAny_bind ?_
  refine wpAny_callSpecial?_slot (name := Str.ofString "__next__") hit.typeIs slot_listiter_next
    (wpAny_call_entry slot_listiter_next hit.typeIs entry_listiter_next ?_ (args_listiter_next _))
  show wpAny _ _ (field (.ref it) 0 >>= _) _ _ s
  refine wpAny_bind (wpAny_field hm.1 hd (x := .ref l) rfl ?_)
  show wpAny _ _ (if (Value.ref l == Value.none) = true then _ else _) _ _ s
  rw [if_neg (show ¬ ((Value.ref l == Value.none) = true) from Bool.false_ne_true)]
  show wpAny _ _ (field (.ref it) 1 >>= _) _ _ s
  refine wpAny_bind (wpAny_field hm.1 hd (x := .int i 0) rfl ?_)
  show wpAny _ _ (seqItems? (.ref l) >>= _) _ _ s
  refine wpAny_bind (wpAny_seqItems hol (by rfl) ?_)
  have hno : vs[i]? = none := Array.getElem?_eq_none hx
  simp only [Int.toNat_natCast, hno]
  refine wpAny_bind (wpAny_rule (wpAny_bind (wpAny_setField hm.1 hd (by simp) ?_)))
  show wpAny _ _ (newExc (.type "StopIteration") [] >>= _) _ _ _
  refine wpAny_bind ?_
  simp only [newExc, newTuple]
  refine wpAny_bind (wpAny_newObj_type ?_ (by size_fits))
  refine wpAny_bind (m := firstArgMember _ _) (wpAny_of_eq (a := Value.none) (by first | rfl | (simp only [firstArgMember]; rfl)) ?_)
  refine wpAny_newObj_type ?_ (by size_fits)
  simp only [raiseNew]
  refine wpAny_bind (wpAny_handled ?_)
  rw [show A.in1.handled = none from hh]
  refine wpAny_bind (wpAny_pure (wpAny_throw ?_))
  have hs : Heap.SameBut it s.heap (s.heap.update it (Obj.mapFields (·.setIfInBounds 0 .none))) := Heap.SameBut.update ..
  have ho' : (s.heap.update it (Obj.mapFields (·.setIfInBounds 0 .none))).get? it = some (itX l i) := by
    rw [Heap.get?_update_self _ hm.1 (Obj.isFreed_of_fields (Obj.data_mapFields hd _))]
    simp [itO, itX, Obj.mapFields]
  refine h _ _ _ (F.change hs hm.2.1 hm.2.2) ?_ ⟨fun b o e => Heap.get?_push_of_some _ (Heap.get?_push_of_some _ e), Heap.get?_none_of_le (by simp), _, .ref (s.heap.update it (Obj.mapFields (·.setIfInBounds 0 .none))).objs.size, Heap.get?_push_size _ rfl, rfl, ?_⟩
  · rw [hg]
    exact (show News h₀ L s.heap (pre ++ (it, itO l i) :: post) from hn ▸ N).setIn a b hs ho'
  · simp [ownMembersOf]
theorem iter_list {l : Addr} {vs : Array Value} {ep : Nat} {Q : Value → Shared → Prop} (F : Fr h₀ L s.heap m) (N : News h₀ L s.heap news) (hl : (l, W.listOf vs ep) ∈ news)
    (h : ∀ (I : Addr) h', Fr h₀ L h' m → News h₀ L h' ((I, itO l 0) :: news) → (∀ p ∈ news, p.1 < I) → Q (.ref I) { s with heap := h' }) :
    wpAny (model prog w) A (call (.builtin "iter") [.ref l]) Q E s := by
  have hL : s.heap.IsList l vs := ⟨_, (N _ hl).1, rfl, ep, rfl⟩
  refine call_function_entry (by decide +kernel) (by decide +kernel) kdk_entry_iter (kdk_args_iter _) ?_
  unfold Builtin.«iter»
  refine wpAny_bind (m := someArgs "iter" 1 2 _) (wpAny_of_eq (a := [Value.ref l]) (by first | rfl | kernel_rfl!) ?_)
  show wpAny _ _ (pyIter (.ref l) >>= _) _ _ _
  refine wpAny_bind (wpAny_pyIter_list hL ?_)
  exact wpAny_pure ⟨_, rfl, h _ _ (F.push _) (News.push F N _ rfl) (fun q hq => Heap.lt_size (N q hq).1)⟩
end
end Mine
end S_C3
section G_V1
open PySem PySem.W PyProof.Rows Mine
local macro_rules | `(tactic| walk_at "exec While") => `(tactic| (k_here; refine hold_of ?_))
section S_V1
open PySem PySem.W PyProof.Rows
namespace Mine
example (w : World) : (fun (_ : Frag) (_ : OpenLaw) => True) (Mine.hd.heap_39 w.params) PySem.Challenge.rw_tr0035_01 := by k_fill; trivial
example : True := by w_top off; trivial
set_option linter.unusedVariables false
set_option maxRecDepth 100000
set_option maxHeartbeats 8000000
section
variable {w : World} {mean : ExcName → Option Value} {mg mb : Str → Option Value} {dp un : Nat} {gd : Option (List Code)} {cn : Str} {cs : Scope} {a : Addr} {ccd : Value} {cl : List (Str × Addr)} {outer : List Env} {A₀ : Around} {base h₀ : Heap} {L : Addr} {m : Str → Option Value} {news : List (Addr × Obj)} {s : Shared} {Q E : Value → Shared → Prop}
section
local macro_rules | `(tactic| walk_at "inplaceOp LShift int int") => `(tactic| (k_here; refine ilshift_int_small (by decide) (by decide) (by assumption) ?_; (try dsimp only)))
local macro_rules | `(tactic| walk_at "call builtin:next") => `(tactic| (k_here; k_dflt (refine' next_it ?F ?N ?U ?l ?i ?x ?_; (case F => k_asm); (case N => k_asm); (case U => exact UpdF.head (by assumption)); (case l => k_mem); (case i => assumption); (case x => assumption); intro h' t9 F' N'; (try dsimp only); (try dsimp only at N'))))
theorem varint {it l : Addr} {i ep : Nat} {vs : Array Value} {cs' : List Int} {rest : List (Addr × Obj)} {v : Int} {r : List Int} (B : Below A₀ base outer h₀) (F : Fr h₀ L s.heap m) (X : (Mine.hd.heap_39 w.params).In h₀) (N : News h₀ L s.heap ((it, itO l i) :: (l, W.listOf vs ep) :: rest)) (T : Top VW (looseW VW []) mean mg mb h₀) (hk : cs.kind = .function) (hd : dp + 10 < recursionLimit) (hu : un + 80 < cLine)
    (hoff : ∀ p ∈ (l, W.listOf vs ep) :: rest, p.1 ≠ it) (hi : IntsAre vs.toList cs') (hr : vread (cs'.drop i) = some (v, r))
    (ret : ∀ t i' h' tk', cs'.drop i' = r → Fr h₀ L h' m → News h₀ L h' ((it, itO l i') :: (l, W.listOf vs ep) :: rest) → Q (.int v t) { s with heap := h', toks := tk' }) :
    wpAny (model PG w) (ktrTop dp un gd cn cs L a ccd cl outer) (call (.ref 35) [.ref it]) Q E s := by
  obtain ⟨c, r0, hc⟩ : ∃ c r0, cs'.drop i = c :: r0 := by
    cases e : cs'.drop i with
    | nil => rw [e] at hr; cases hr
    | cons c r0 => exact ⟨c, r0, rfl⟩
  rw [hc] at hr
  obtain ⟨hx, hdr⟩ := drop_get hc
  refine wpAny_call ?_
  k_dflt ktr_enter
  k_steps
  refine of_hold ?_
  (rename Fr _ _ _ _ => lF'); (rename News _ _ _ _ => lN')
  refine while2 (y := Str.ofString "val") (y' := Str.ofString "b") (fun n u u' nx => ∃ (val b : Int) (i' : Nat) (tv tb : Tok), nx = (it, itO l i') :: (l, W.listOf vs ep) :: rest ∧ u = .int val tv ∧ u' = .int b tb ∧
    n = (cs'.drop i').length ∧ vgo val b (cs'.drop i') = some (v, r)) lF' lN' rfl rfl ⟨_, _, _, _, _, rfl, rfl, rfl, rfl, by rw [hdr]; exact hr⟩ ?_ ?_
  · rintro n u u' nx h₁ tk₁ ⟨val, b, i', tv, tb, rfl, rfl, rfl, hn, hv⟩ F' N'
    clear lF' lN'
    by_cases hb0 : Builtin.bitAnd b 64 = 0
    · obtain ⟨rfl, hl⟩ := vgo_stop hb0 hv
      k_steps
      all_goals first | exact absurd hb0 (by assumption) | exact ret _ _ _ _ hl (by k_asm) (by k_asm)
    · obtain ⟨c2, r2, hc2, hvb, hv2⟩ := vgo_more hb0 hv
      obtain ⟨hx2, hdr2⟩ := drop_get hc2
      k_steps
      all_goals first | exact absurd (by assumption) hb0 | exact WhileStep.intro (n' := (cs'.drop (i' + 1)).length) (by k_asm) (by k_asm) (by rw [hn, hc2, hdr2]; exact Nat.lt_succ_self _) ⟨_, _, rfl, rfl, (fun z h1 h2 => by simp only [h1, h2, if_false]), _, _, _, _, _, rfl, rfl, rfl, rfl, by rw [hdr2]; exact hv2⟩
  k_steps
end
end
end Mine
end S_V1
section S_R1
open PySem PySem.W PyProof.Rows
namespace Mine
example (w : World) : (fun (_ : Frag) (_ : OpenLaw) => True) (Mine.hd.heap_39 w.params) PySem.Challenge.rw_tr0035_01 := by k_fill; trivial
example : True := by w_top off; trivial
set_option linter.unusedVariables false
set_option maxRecDepth 100000
set_option maxHeartbeats 8000000
section
variable {w : World} {mean : ExcName → Option Value} {mg mb : Str → Option Value} {dp un : Nat} {gd : Option (List Code)} {cn : Str} {cs : Scope} {a : Addr} {ccd : Value} {cl : List (Str × Addr)} {outer : List Env} {A₀ : Around} {base h₀ : Heap} {L : Addr} {m : Str → Option Value} {news : List (Addr × Obj)} {s : Shared} {Q E : Value → Shared → Prop}
section
local macro_rules | `(tactic| walk_at "eval ListComp") => `(tactic| (k_here; refine hold_of ?_))
local macro_rules | `(tactic| walk_at "call builtin:iter") => `(tactic| (k_here; (with_reducible show wpAny _ _ (call (Value.builtin "iter") [Value.ref _]) _ _ _); k_dflt (refine' iter_list ?F ?N ?l ?_; (case F => k_asm); (case N => k_asm); (case l => k_mem); intro I' h' F' N' l1)))
local macro_rules | `(tactic| walk_at "call builtin:next") => `(tactic| (k_here; (with_reducible show wpAny _ _ (call (Value.builtin "next") [Value.ref _]) _ _ _); k_dflt (refine' next_stop ?hh ?F ?N ?U ?l ?x ?_; (case hh => rfl); (case F => k_asm); (case N => k_asm); (case U => exact UpdF.head (by assumption)); (case l => k_mem); (case x => assumption); intro h₁ h' e' F' N' x'; (try dsimp only at N'))))
local macro_rules | `(tactic| kts_caughtN) => `(tactic| ((with_reducible show wpAny _ _ (noteFrame _ _) (fun _ s₂ => wpAny _ _ (setFlight _ none) (fun _ s₃ => wpAny _ _ (handleBy _ _ (ExceptHandler.ExceptHandler (some (Expr.Name ("StopIteration" : Str) _)) none _ _ :: _)) _ _ s₃) _ s₂) _ _); k_dflt (refine' caught_SN0 (T' := "StopIteration") ?R ?F ?K ?U ?XB ?TB ?D ?T0 ?ex PyProof.Rows.Boot.«StopIteration» ?hn isExc_stop notTuple_stop ?hs ?_; (case R => assumption); (case F => assumption); (case K => assumption); (case U => assumption); (case XB => assumption); (case TB => assumption); (case D => assumption); (case T0 => first | assumption | exact KtsTurn.refl); (case hs => kts_sub); (case ex => k_is); (case hn => decide); k_whole); intro h' g' T' F' N' K' X' P' D'; (try k_lift K'); (try k_sweep)))
local macro_rules | `(tactic| walk_at "call ref") => `(tactic| (k_here; first
  | k_dflt (refine varint (by k_asm) (by k_asm) (by k_asm) (by k_asm) (by k_asm) (by first | exact rfl | assumption) (by ktr_room) (by ktr_units) (by assumption) (by assumption) (by assumption) ?_; intro t9 i9 h9 tk9 hi9 F9 N9)
  | refine hold_of ?_))
theorem lread {t : Tok} {lt : List Nat} {nums : List Int} (B : Below A₀ base [] h₀) (F : Fr h₀ L s.heap m) (X : (Mine.hd.heap_39 w.params).In h₀) (N : News h₀ L s.heap news) (T : Top VW (looseW VW []) mean mg mb h₀) (XB : (Mine.hd.heap_39 w.params).In base) (TB : Top VW (looseW VW []) mean mg mb base) (hk : cs.kind = .function) (hd : dp + 30 < recursionLimit) (hu : un + 280 < cLine)
    (hl : lt.length ≤ 6000) (hp : Parsed (codes lt) nums) (hnl : nums.length ≤ 6000)
    (ret : ∀ D vs ep h' tk', Fr h₀ L h' m → News h₀ L h' ((D, W.listOf vs ep) :: news) → (∀ p ∈ news, p.1 ≠ D) → IntsAre vs.toList nums → Q (.ref D) { s with heap := h', toks := tk' }) :
    wpAny (model PG w) (ktrTop dp un gd cn cs L a ccd [] []) (call (.ref 96) [.str (tx lt) t]) Q E s := by
  refine wpAny_call ?_
  k_dflt (refine' code_defS0 ?k1 ?k2 ?k3 ?k4 ?k5 ?kA ?k6 ?k7 ?k8 ?k9 ?kB ?_ ?cK ?c2 ?c3 ?c4 ?c5; (case kA => exact rfl); (case k2 => k_asm); (case k1 => k_asm); (case k3 => k_asm); (case k4 => k_asm); (case k5 => k_asm); (case k6 => k_is); (case k7 => k_is); (case k8 => ktr_room); (case k9 => first | exact BindsTo.of_eq rfl); (case kB => exact locs rfl); (case cK => exact hk); (case c2 => exact rfl); (case c3 => exact rfl); (case c4 => exact rfl); (case c5 => decide); k_whole; intro g' L' h' FG' F' N' B' X' T' D'; (try dsimp only); (try k_lift B'); (try k_fold))
  k_steps
  refine of_hold ?_
  (rename Fr _ _ _ _ => lF'); (rename News _ _ _ _ => lN'); (rename Top _ _ _ _ _ _ => lT')
  refine comp_ord (l := lt) rfl (by decide) (by decide) rfl (by decide) rfl rfl lF' lN' (by rw [sizeLine_eq]; omega) (ld lF' rfl ⟨rfl, rfl⟩) (lT'.g.keeps lF'.keep) (lT'.free _ (by decide +kernel) (by decide +kernel) (by decide +kernel) (by decide +kernel) (by decide +kernel)) (lT'.b.keeps lF'.keep) ((lT'.builtins _ (by decide +kernel)).trans boot_ord) ?_ (by intro _; rfl)
  intro D ys n9 h' tk' F' N' hne hys
  clear lF' lN'
  k_steps
  refine of_hold ?_
  (rename Fr _ _ _ _ => lF'); (rename News _ _ _ _ => lN')
  rename_i It _ lI _ _ Ln _ lN _
  have hItLn : It < Ln := lN.1
  have hDLn : D < Ln := lN.2.1
  have hnLn : AllLt Ln news := lN.2.2
  have hDIt : D < It := lI _ (.head _)
  have hnIt : ∀ p ∈ news, p.1 < It := fun p hp => lI p (.tail _ hp)
  have lN2 := news_sub lN' (news' := (It, itO D 0) :: (D, W.listOf ys.toArray n9) :: (Ln, W.listOf #[] 0) :: news) (fun p hp => by
    simp only [List.mem_cons] at hp ⊢
    rcases hp with hp | hp | hp | hp <;> simp [hp])
  clear lN'
  refine while0 (fun n nx => ∃ (i : Nat) (vsN : Array Value) (epN : Nat) (dn rn : List Int), nx = (It, itO D i) :: (D, W.listOf ys.toArray n9) :: (Ln, W.listOf vsN epN) :: news ∧ IntsAre vsN.toList dn ∧ dn ++ rn = nums ∧ Parsed ((codes lt).drop i) rn ∧ n = ((codes lt).drop i).length) lF' lN2 ⟨0, #[], 0, [], nums, rfl, .nil, rfl, hp, rfl⟩ ?_ ?_
  · rintro n nx h₁ tk₁ ⟨i, vsN, epN, dn, rn, rfl, hvs, hdr, hpr, hn⟩ F' N'
    clear lF' lN2
    have hoff : ∀ p ∈ (D, W.listOf ys.toArray n9) :: (Ln, W.listOf vsN epN) :: news, p.1 ≠ It := by
      intro p hp
      simp only [List.mem_cons] at hp
      rcases hp with rfl | rfl | hp
      · exact Nat.ne_of_lt hDIt
      · exact Nat.ne_of_gt hItLn
      · exact Nat.ne_of_lt (hnIt p hp)
    have hsz : vsN.size ≤ 6000 := by
      have h1 := hvs.length
      have h2 := congrArg List.length hdr
      simp only [List.length_append, Array.length_toList] at h1 h2
      omega
    generalize hcd : (codes lt).drop i = cd9 at hpr
    cases hpr with
    | nil =>
      k_steps
      refine of_hold ?_
      refine wpAny_call ?_
      k_dflt (refine' code_defS ?k1 ?k2 ?k3 ?k4 ?k5 ?XB ?TB ?D ?T0 ?kA ?k6 ?k7 ?k8 ?k9 ?kB ?_ ?cK ?c2 ?c3 ?c4 ?c5; (case kA => exact rfl); (case k2 => k_asm); (case k1 => k_asm); (case XB => assumption); (case TB => assumption); (case D => assumption); (case T0 => first | assumption | exact KtsTurn.refl); (case k3 => k_asm); (case k4 => k_asm); (case k5 => k_asm); (case k6 => k_is); (case k7 => k_is); (case k8 => ktr_room); (case k9 => first | exact BindsTo.of_eq rfl); (case kB => exact locs rfl); (case cK => exact rfl); (case c2 => exact rfl); (case c3 => exact rfl); (case c4 => exact rfl); (case c5 => decide); k_whole; intro g' L' h' FG' F' N' B' X' T' D'; (try dsimp only); (try k_lift B'); (try k_fold))
      have hend : ys.toArray.size ≤ i := by
        have h1 := hys.length
        have h2 := List.drop_eq_nil_iff.mp hcd
        simp only [List.size_toArray]
        omega
      k_steps
      exact ret _ _ _ _ _ (by k_asm) (news_sub (by k_asm) (fun p hp => List.Mem.tail _ (List.Mem.tail _ hp))) (fun p hp => Nat.ne_of_lt (ktn_ltOf hnLn p hp)) (by rw [← hdr, List.append_nil]; exact hvs)
    | @cons _ r2 v2 vs2 hv hrest =>
      rw [← hcd] at hv
      have hys2 : IntsAre (ys.toArray).toList (codes lt) := by simpa using hys
      k_steps
      (rename (List.drop _ (codes lt) = _) => hi9)
      refine WhileStep.intro (by k_asm) (by k_asm) ?hlt ⟨rfl, _, _, _, dn ++ [v2], vs2, rfl, ?hv1, ?hd1, ?hp1, rfl⟩
      case hlt => rw [hi9, hn]; exact vread_shrinks hv
      case hv1 => rw [Array.toList_push]; exact IntsAre.append hvs (.cons _ _ .nil)
      case hd1 => simpa using hdr
      case hp1 => rw [hi9]; exact hrest
  · k_steps
end
end
end Mine
end S_R1
end G_V1
section S_C4
open PySem PySem.W PyProof.Rows PySem.Calls PyProof.V PySem.Spec
namespace Mine
section
variable {prog : Program} {w : World} {A : Around} {E : Value → Shared → Prop} {s : Shared} {h₀ : Heap} {L : Addr} {m : Str → Option Value} {news : List (Addr × Obj)} {env : Env}
theorem ints_get {vs : List Value} {ns : List Int} (hi : IntsAre vs ns) {i : Nat} (h : i < ns.length) : ∃ t, vs[i]? = some (.int (ns.getD i 0) t) := by
  refine hi.get i _ ?_
  simp [List.getD, h]
/-- an item of a list of ints on the ledger -/
theorem item_ints {value slice : PySem.Expr} {l : Addr} {vs : Array Value} {ep : Nat} {ns : List Int} {k : Int} {u : Tok} {Q : Value → Shared → Prop} (N : News h₀ L s.heap news) (hm : (l, W.listOf vs ep) ∈ news) (hi : IntsAre vs.toList ns)
    (h0 : 0 ≤ k) (hhi : k < 2 ^ 63) (hk : k.toNat < ns.length) (h : ∀ t, Q (.int (ns.getD k.toNat 0) t) s)
    (hs : subscripted slice false (.ref l) (.int k u) = operate [.ref l, .int k u] (getItem (.ref l) (.int k u)) := by with_unfolding_all rfl) :
    wpAny (model prog w) A (subscriptTail value slice (.ref l) (.int k u)) Q E s := by
  have hL : s.heap.IsList l vs := ⟨_, (N _ hm).1, rfl, ep, rfl⟩
  obtain ⟨t, ht⟩ := ints_get hi hk
  exact tail_any hL.typeIs slot_list_getitem.lookup (wpAny_getItem_list hL h0 hhi (by rw [← Array.getElem?_toList]; exact ht) (h t)) hs
end
section
variable {prog : Program} {w : World} {A : Around} {E : Value → Shared → Prop} {s : Shared} {env : Env} {h₀ : Heap} {x : Str} {body : List Stmt} {Q : Flow → Shared → Prop}
/-- a loop over a range with any step -/
theorem iter_rangeK {r : Addr} {a₀ b₀ c₀ : Int} {t₀ u₀ v₀ : Tok} {n : Nat} {m₀ : Str → Option Value} {news : List (Addr × Obj)}
    (J : Nat → (Str → Option Value) → List (Addr × Obj) → Prop)
    (hh : A.handled = none) (hr : IsRange s.heap r a₀ b₀ c₀ t₀ u₀ v₀) (hsmall : Builtin.Range.small a₀ b₀ c₀ = true) (hn : Builtin.Range.rangeSize a₀ b₀ c₀ = (n : Int)) (F : Fr h₀ env.locals s.heap m₀) (N : News h₀ env.locals s.heap news) (hj : J 0 m₀ news)
    (turn : ∀ (i : Nat) t m₁ nx h tk own, i < n → nx.map (·.1) = news.map (·.1) → OwnOff own (news.map (·.1)) → J i m₁ nx → Fr h₀ env.locals h (fun y => if y = x then some (.int (a₀ + (i : Int) * c₀) t) else m₁ y) → News h₀ env.locals h (nx ++ own) →
      wpAny (model prog w) A (execs body env) (InvPostN h₀ env.locals (J (i + 1)) own (news.map (·.1)) { s with heap := h, toks := tk } Q) E { s with heap := h, toks := tk })
    (done : ∀ m₁ nx h tk, J n m₁ nx → Fr h₀ env.locals h m₁ → News h₀ env.locals h nx → Q .next { s with heap := h, toks := tk }) :
    wpAny (model prog w) A (pyIter (.ref r)) (fun it s₂ => LoopAtV prog w A h₀ env x body Q E it s₂) E s := by
  refine wpAny_pyIter_range hr hsmall ?_
  have W : Walks prog w A s.heap.objs.size [s.heap.objs.size] [s.heap.objs.size] n (fun i v => i < n ∧ ∃ t, v = .int (a₀ + i * c₀) t)
      (fun i h => IsRangeIter h s.heap.objs.size (a₀ + (i : Nat) * c₀) ((n : Int) - (i : Nat)) c₀) := (Walks.range hh _ a₀ c₀ n).bound
  refine loop_invN J W ?_ ?_ ?_ ?_ (by show IsRangeIter _ _ _ _ _; rw [hn]; simpa using Heap.get?_push_size _ rfl) (F.push _) (fun p hp => ⟨Heap.get?_push_of_some _ (N p hp).1, (N p hp).2⟩) hj ?_ ?_
  · intro hm
    exact absurd F.ns.lt ((List.mem_singleton.mp hm) ▸ Nat.lt_irrefl _)
  · intro b hb
    rw [List.mem_singleton.mp hb]
    exact next_is_new F
  · intro p hp hI
    exact absurd (Heap.lt_size (N p hp).1) ((List.mem_singleton.mp hI) ▸ Nat.lt_irrefl _)
  · intro p hp hI
    exact absurd (Heap.lt_size (N p hp).1) ((List.mem_singleton.mp hI) ▸ Nat.lt_irrefl _)
  · rintro i v m₁ nx h tk own hi ⟨_, t, rfl⟩ ha ho hJ F' N'
    exact turn i t m₁ nx h tk own hi ha ho hJ F' N'
  · exact done
/-- three names that the loop turns; the ledger stands -/
theorem iter_range3 {r : Addr} {a₀ b₀ c₀ : Int} {t₀ u₀ v₀ : Tok} {n : Nat} {m₀ : Str → Option Value} {news : List (Addr × Obj)} {y y' y'' : Str} (P : Nat → Value → Value → Value → Prop) {w₀ w₀' w₀'' : Value}
    (hh : A.handled = none) (hr : IsRange s.heap r a₀ b₀ c₀ t₀ u₀ v₀) (hsmall : Builtin.Range.small a₀ b₀ c₀ = true) (hn : Builtin.Range.rangeSize a₀ b₀ c₀ = (n : Int)) (F : Fr h₀ env.locals s.heap m₀) (N : News h₀ env.locals s.heap news)
    (hy : m₀ y = some w₀) (hy' : m₀ y' = some w₀') (hy'' : m₀ y'' = some w₀'') (hP : P 0 w₀ w₀' w₀'')
    (turn : ∀ (i : Nat) t v v' v'' h tk own, i < n → OwnOff own (news.map (·.1)) → P i v v' v'' → Fr h₀ env.locals h (fun z => if z = x then some (.int (a₀ + (i : Int) * c₀) t) else if z = y then some v else if z = y' then some v' else if z = y'' then some v'' else m₀ z) → News h₀ env.locals h (news ++ own) →
      wpAny (model prog w) A (execs body env) (InvPostN h₀ env.locals (fun m' nx => nx = news ∧ ∃ v v' v'', m' y = some v ∧ m' y' = some v' ∧ m' y'' = some v'' ∧ P (i + 1) v v' v'' ∧ ∀ z, z ≠ x → z ≠ y → z ≠ y' → z ≠ y'' → m' z = m₀ z) own (news.map (·.1)) { s with heap := h, toks := tk } Q) E { s with heap := h, toks := tk })
    (done : ∀ (u : Str → Option Value) v v' v'' h tk, P n v v' v'' → Fr h₀ env.locals h (fun z => if z = x then u z else if z = y then some v else if z = y' then some v' else if z = y'' then some v'' else m₀ z) → News h₀ env.locals h news → Q .next { s with heap := h, toks := tk }) :
    wpAny (model prog w) A (pyIter (.ref r)) (fun it s₂ => LoopAtV prog w A h₀ env x body Q E it s₂) E s := by
  refine iter_rangeK (fun i m' nx => nx = news ∧ ∃ v v' v'', m' y = some v ∧ m' y' = some v' ∧ m' y'' = some v'' ∧ P i v v' v'' ∧ ∀ z, z ≠ x → z ≠ y → z ≠ y' → z ≠ y'' → m' z = m₀ z) hh hr hsmall hn F N ⟨rfl, _, _, _, hy, hy', hy'', hP, fun _ _ _ _ _ => rfl⟩ ?_ ?_
  · rintro i t m₁ nx h tk own hi _ ho ⟨rfl, v, v', v'', ha, hb, hc, hP', hm⟩ F' N'
    rw [map_three ha hb hc hm] at F'
    exact turn i t v v' v'' h tk own hi ho hP' F' N'
  · rintro m₁ nx h tk ⟨rfl, v, v', v'', ha, hb, hc, hP', hm⟩ F' N'
    refine done m₁ v v' v'' h tk hP' ?_ N'
    have e : (fun z => if z = x then m₁ z else if z = y then some v else if z = y' then some v' else if z = y'' then some v'' else m₀ z) = m₁ := by
      funext z
      by_cases h1 : z = x
      · simp [h1]
      · simp only [if_neg h1]
        by_cases h2 : z = y
        · subst h2; simp [ha]
        · simp only [if_neg h2]
          by_cases h3 : z = y'
          · subst h3; simp [hb]
          · simp only [if_neg h3]
            by_cases h4 : z = y''
            · subst h4; simp [hc]
            · simp only [if_neg h4]; exact (hm z h1 h2 h3 h4).symm
    rw [e]; exact F'

theorem map_st {st : List Str} {x : Str} {v : Value} {m₁ m₀ : Str → Option Value} (hm : ∀ z, z ≠ x → z ∉ st → m₁ z = m₀ z) :
    (fun z => if z = x then some v else m₁ z) = fun z => if z = x then some v else if z ∈ st then m₁ z else m₀ z := by
  funext z
  by_cases h1 : z = x
  · simp [h1]
  · simp only [if_neg h1]
    by_cases h2 : z ∈ st
    · simp only [if_pos h2]
    · simp only [if_neg h2]; exact hm z h1 h2
theorem map_st' {st : List Str} {x : Str} {m₁ m₀ : Str → Option Value} (hm : ∀ z, z ≠ x → z ∉ st → m₁ z = m₀ z) :
    m₁ = fun z => if z = x then m₁ z else if z ∈ st then m₁ z else m₀ z := by
  funext z
  by_cases h1 : z = x
  · simp only [if_pos h1]
  · simp only [if_neg h1]
    by_cases h2 : z ∈ st
    · simp only [if_pos h2]
    · simp only [if_neg h2]; exact hm z h1 h2
/-- a loop over a range that forgets the names it stores; the ledger by a relation -/
theorem iter_rangeL {r : Addr} {a₀ b₀ c₀ : Int} {t₀ u₀ v₀ : Tok} {n : Nat} {m₀ : Str → Option Value} {news : List (Addr × Obj)} (st : List Str) (R : Nat → List (Addr × Obj) → Prop)
    (hh : A.handled = none) (hr : IsRange s.heap r a₀ b₀ c₀ t₀ u₀ v₀) (hsmall : Builtin.Range.small a₀ b₀ c₀ = true) (hn : Builtin.Range.rangeSize a₀ b₀ c₀ = (n : Int)) (F : Fr h₀ env.locals s.heap m₀) (N : News h₀ env.locals s.heap news) (hR : R 0 news)
    (turn : ∀ (i : Nat) t (u : Str → Option Value) nx h tk own, i < n → nx.map (·.1) = news.map (·.1) → OwnOff own (news.map (·.1)) → R i nx → Fr h₀ env.locals h (fun z => if z = x then some (.int (a₀ + (i : Int) * c₀) t) else if z ∈ st then u z else m₀ z) → News h₀ env.locals h (nx ++ own) →
      wpAny (model prog w) A (execs body env) (InvPostN h₀ env.locals (fun m' nx' => R (i + 1) nx' ∧ ∀ z, z ≠ x → z ∉ st → m' z = m₀ z) own (news.map (·.1)) { s with heap := h, toks := tk } Q) E { s with heap := h, toks := tk })
    (done : ∀ (u : Str → Option Value) nx h tk, R n nx → Fr h₀ env.locals h (fun z => if z = x then u z else if z ∈ st then u z else m₀ z) → News h₀ env.locals h nx → Q .next { s with heap := h, toks := tk }) :
    wpAny (model prog w) A (pyIter (.ref r)) (fun it s₂ => LoopAtV prog w A h₀ env x body Q E it s₂) E s := by
  refine iter_rangeK (fun i m' nx => R i nx ∧ ∀ z, z ≠ x → z ∉ st → m' z = m₀ z) hh hr hsmall hn F N ⟨hR, fun _ _ _ => rfl⟩ ?_ ?_
  · rintro i t m₁ nx h tk own hi ha ho ⟨hR', hm⟩ F' N'
    rw [map_st hm] at F'
    exact turn i t m₁ nx h tk own hi ha ho hR' F' N'
  · rintro m₁ nx h tk ⟨hR', hm⟩ F' N'
    rw [map_st' hm] at F'
    exact done m₁ nx h tk hR' F' N'
end
end Mine
end S_C4
section S_C5
open PySem PySem.W PyProof.Rows PySem.Calls PyProof.V PySem.Spec
namespace Mine
theorem fillsI_list : fillsInplaceSlot (.type "list") "add" (Operator.Add == .Add) = pure false := by
  show (typeLookup (.type "list") (dunderI "add") >>= fun fi => pure (fi.isSome && !isSeqSlot fi)) = pure false
  rw [PySem.F.slot_list_iadd.lookup]
  show (pure ((some (Value.builtin "list.__iadd__")).isSome && !isSeqSlot (some (.builtin "list.__iadd__"))) : Sem Bool) = pure false
  rw [show isSeqSlot (some (.builtin "list.__iadd__")) = true from by decide +kernel]
  rfl
theorem seqI_list : seqSlot? (.type "list") (dunderI "add") = pure (some (.builtin "list.__iadd__")) := PySem.seqSlot_of PySem.F.slot_list_iadd.lookup (by decide +kernel)
section
variable {prog : Program} {w : World} {A : Around} {E : Value → Shared → Prop} {s : Shared} {h₀ : Heap} {L : Addr} {m : Str → Option Value} {news : List (Addr × Obj)} {g : Obj → List (Addr × Obj)}
/-- D += b of two lists on the ledger -/
theorem iadd_led {D b : Addr} {vs ws : Array Value} {n n2 : Nat} {Q : Value → Shared → Prop} (F : Fr h₀ L s.heap m) (N : News h₀ L s.heap news) (U : UpdF D (W.listOf vs n) news g) (hb : (b, W.listOf ws n2) ∈ news) (hsz : vs.size + ws.size ≤ 100000)
    (h : ∀ h' n', Fr h₀ L h' m → News h₀ L h' (g (W.listOf (vs ++ ws) n')) → Q (.ref D) { s with heap := h' }) :
    wpAny (model prog w) A (inplaceOp .Add (.ref D) (.ref b)) Q E s := by
  obtain ⟨pre, post, hn, hg, a, b'⟩ := U.split
  have hmem : (D, W.listOf vs n) ∈ news := by rw [hn]; exact List.mem_append_right _ (.head _)
  have hm := N (D, W.listOf vs n) hmem
  have hbm := (N _ hb).1
  have tD : s.TypeIs (.ref D) "list" := ⟨_, hm.1, rfl⟩
  have tb : s.TypeIs (.ref b) "list" := ⟨_, hbm, rfl⟩
  have hl : sizeLine = 16777216 := sizeLine_eq
  unfold inplaceOp
  refine wpAny_holding ?_
  refine wpAny_bind (wpAny_typeOf tD (wpAny_bind (wpAny_of_eq fillsI_list ?_)))
  show wpAny _ A (if false = true then _ else _) Q E s
  rw [if_neg Bool.false_ne_true]
  refine wpAny_bind (wpAny_binaryOp1_none (nm := "add") tD tb noFill_list_add ?_)
  refine wpAny_bind (wpAny_of_eq seqI_list ?_)
  refine wpAny_bind (wpAny_rule ?_)
  refine call_meets PySem.F.slot_list_iadd tD PySem.F.entry_list_iadd (PySem.F.args_list_iadd_2 _ _)
    (PySem.AutoSeq1.list___iadd___list_list_0 D vs n b ws n2 (by
      have : Builtin.List.listTooLong (vs.size + ws.size) = false := by
        unfold Builtin.List.listTooLong
        exact decide_eq_false (by omega)
      rw [this]; simp) (by omega) (by omega)) ⟨hm.1, hbm, ?_⟩
  have hs : Heap.SameBut D s.heap (s.heap.update D (Obj.mapSeq fun x => x ++ ws)) := Heap.SameBut.update ..
  have ho' : (s.heap.update D (Obj.mapSeq fun x => x ++ ws)).get? D = some (W.listOf (vs ++ ws) (if (vs ++ ws).size == vs.size then n else n + 1)) := by
    rw [Heap.get?_update_self _ hm.1 rfl]
    rfl
  refine h _ (if (vs ++ ws).size == vs.size then n else n + 1) (F.change hs hm.2.1 hm.2.2) ?_
  rw [hg]
  exact (show News h₀ L s.heap (pre ++ (D, W.listOf vs n) :: post) from hn ▸ N).setIn a b' hs ho'
/-- [x] * k, k maybe not above nought -/
theorem rep_led {l : Addr} {vs : Array Value} {ep : Nat} {x : Int} {u : Tok} {c : Int} {Q : Value → Shared → Prop} (F : Fr h₀ L s.heap m) (N : News h₀ L s.heap news) (hl : (l, W.listOf vs ep) ∈ news) (hi : IntsAre vs.toList [c]) (hlo : -100 ≤ x) (hhi : x < 100)
    (h : ∀ D h' (ws : List Value), Fr h₀ L h' m → News h₀ L h' ((D, W.listOf ws.toArray 0) :: news) → (∀ p ∈ news, p.1 < D) → IntsAre ws (List.replicate x.toNat c) → Q (.ref D) { s with heap := h' }) :
    wpAny (model prog w) A (binaryOp .Mult (.ref l) (.int x u)) Q E s := by
  obtain ⟨vl⟩ := vs
  have hL : s.heap.IsList l vl.toArray := ⟨_, (N _ hl).1, rfl, ep, rfl⟩
  have hlen := hi.length
  simp only [List.length_cons, List.length_nil] at hlen
  refine KMa.mul F N hL (by omega) (by omega) (by rw [hlen]; omega) rfl ?_
  intro D h' F' N' hlt
  refine h D h' _ F' N' hlt ?_
  have hi' : IntsAre vl [c] := hi
  cases hi' with
  | cons _ t hr =>
    cases hr
    generalize x.toNat = k
    induction k with
    | zero => exact .nil
    | succ k ih =>
      simp only [List.replicate_succ, List.flatten_cons, List.cons_append, List.nil_append]
      exact .cons _ t ih
end
end Mine
end S_C5
section S_PD
open PySem PySem.W PyProof.Rows
namespace Mine
noncomputable def againC : Int := 8838203
noncomputable def ist (ns : List Int) (n : Nat) (k : Int) : Nat → Int × Int × Bool
  | 0 => (k, 0, false)
  | i + 1 => if ns.getD ((n : Int) - 1 + (i : Int) * (-1)).toNat 0 ≤ (ist ns n k i).1 then ((ist ns n k i).1 - ns.getD ((n : Int) - 1 + (i : Int) * (-1)).toNat 0, (ist ns n k i).2.1 + 1, ((n : Int) - 1 + (i : Int) * (-1)) == 1) else ist ns n k i
theorem ist_yes {ns : List Int} {n : Nat} {k : Int} {i : Nat} (h : ns.getD ((n : Int) - 1 + (i : Int) * (-1)).toNat 0 ≤ (ist ns n k i).1) :
    ist ns n k (i + 1) = ((ist ns n k i).1 - ns.getD ((n : Int) - 1 + (i : Int) * (-1)).toNat 0, (ist ns n k i).2.1 + 1, ((n : Int) - 1 + (i : Int) * (-1)) == 1) := by
  rw [ist, if_pos h]
theorem ist_no {ns : List Int} {n : Nat} {k : Int} {i : Nat} (h : ¬ ns.getD ((n : Int) - 1 + (i : Int) * (-1)).toNat 0 ≤ (ist ns n k i).1) :
    ist ns n k (i + 1) = ist ns n k i := by
  rw [ist, if_neg h]
theorem ist_parts (ns : List Int) (n : Nat) (k : Int) : ∀ i, 0 ≤ (ist ns n k i).2.1 ∧ (ist ns n k i).2.1 ≤ i
  | 0 => ⟨Int.le_refl _, Int.le_refl _⟩
  | i + 1 => by
    have ih := ist_parts ns n k i
    unfold ist
    split
    · simp only; omega
    · omega
noncomputable def dueOne (ns : List Int) (n f s : Nat) (k : Int) : List Int :=
  if (ist ns n k (n - 1)).2.2 = true then [38] ++ List.replicate ((f : Int) + (n : Int) - 2 * (ist ns n k (n - 1)).2.1).toNat againC ++ [183611]
  else [38] ++ List.replicate ((s : Int) + (n : Int) - 1 - 2 * (ist ns n k (n - 1)).2.1).toNat againC ++ [163131]
noncomputable def dueL (ns : List Int) (n f s : Nat) : Nat → List Int
  | 0 => []
  | k + 1 => dueL ns n f s k ++ dueOne ns n f s (0 + (k : Int) * 1)
noncomputable def szs (n : Nat) : List Int := [1, 1, 2, 3, 5, 8, 13, 21].take (n + 1)
theorem szs_len {n : Nat} (h : n ≤ 7) : (szs n).length = n + 1 := by unfold szs; simp; omega
theorem dueOne_len {ns : List Int} {n f s : Nat} {k : Int} (hn : n ≤ 7) (hf : f ≤ 3) (hs : s ≤ 3) : (dueOne ns n f s k).length ≤ 12 := by
  have h := ist_parts ns n k (n - 1)
  unfold dueOne
  split <;> simp only [List.length_append, List.length_cons, List.length_nil, List.length_replicate] <;> omega
theorem dueL_len {ns : List Int} {n f s : Nat} (hn : n ≤ 7) (hf : f ≤ 3) (hs : s ≤ 3) : ∀ k, (dueL ns n f s k).length ≤ 12 * k
  | 0 => Nat.le_refl _
  | k + 1 => by
    have ih := dueL_len (ns := ns) hn hf hs k
    have h1 := dueOne_len (ns := ns) (k := 0 + (k : Int) * 1) hn hf hs
    simp only [dueL, List.length_append]
    omega
theorem again_is : (33 * 64 ^ Int.toNat 3 + 45 * 64 ^ Int.toNat 2 + 48 * 64 + 59 : Int) = againC := by decide
theorem ltc_is : (44 * 64 ^ Int.toNat 2 + 52 * 64 + 59 : Int) = 183611 := by decide
theorem gtc_is : (39 * 64 ^ Int.toNat 2 + 52 * 64 + 59 : Int) = 163131 := by decide
theorem dueOne_yes {ns : List Int} {n f s : Nat} {k : Int} (h : (ist ns n k (n - 1)).2.2 = true) : dueOne ns n f s k = [38] ++ List.replicate ((f : Int) + (n : Int) - 2 * (ist ns n k (n - 1)).2.1).toNat againC ++ [183611] := by
  unfold dueOne; rw [if_pos h]
theorem dueOne_no {ns : List Int} {n f s : Nat} {k : Int} (h : (ist ns n k (n - 1)).2.2 = false) : dueOne ns n f s k = [38] ++ List.replicate ((s : Int) + (n : Int) - 1 - 2 * (ist ns n k (n - 1)).2.1).toNat againC ++ [163131] := by
  unfold dueOne; rw [if_neg (by rw [h]; exact Bool.false_ne_true)]
theorem szs_last {n : Nat} (h1 : 4 ≤ n) (h2 : n ≤ 7) : 0 ≤ (szs n).getD n 0 ∧ (szs n).getD n 0 ≤ 21 := by
  have : n = 4 ∨ n = 5 ∨ n = 6 ∨ n = 7 := by omega
  rcases this with rfl | rfl | rfl | rfl <;> decide
end Mine
end S_PD
section G_S1
open PySem PySem.W PyProof.Rows Mine
local macro_rules | `(tactic| walk_at "storeName") => `(tactic| (k_here; dsimp only))
section S_S1
open PySem PySem.W PyProof.Rows
namespace Mine
example (w : World) : (fun (_ : Frag) (_ : OpenLaw) => True) (Mine.hd.heap_39 w.params) PySem.Challenge.rw_tr0035_01 := by k_fill; trivial
example : True := by w_top off; trivial
set_option linter.unusedVariables false
set_option maxRecDepth 100000
set_option maxHeartbeats 8000000
section
variable {w : World} {mean : ExcName → Option Value} {mg mb : Str → Option Value} {dp un : Nat} {gd : Option (List Code)} {cn : Str} {cs : Scope} {a : Addr} {ccd : Value} {cl : List (Str × Addr)} {outer : List Env} {A₀ : Around} {base h₀ : Heap} {L : Addr} {m : Str → Option Value} {news : List (Addr × Obj)} {s : Shared} {Q E : Value → Shared → Prop}
section
theorem lsizes {t : Tok} {n : Nat} (B : Below A₀ base outer h₀) (F : Fr h₀ L s.heap m) (X : (Mine.hd.heap_39 w.params).In h₀) (N : News h₀ L s.heap news) (T : Top VW (looseW VW []) mean mg mb h₀) (hk : cs.kind = .function) (hd : dp + 30 < recursionLimit) (hu : un + 280 < cLine)
    (hn1 : 4 ≤ n) (hn2 : n ≤ 7)
    (ret : ∀ D vs ep h' tk', Fr h₀ L h' m → News h₀ L h' ((D, W.listOf vs ep) :: news) → (∀ p ∈ news, p.1 ≠ D) → IntsAre vs.toList (szs n) → Q (.ref D) { s with heap := h', toks := tk' }) :
    wpAny (model PG w) (ktrTop dp un gd cn cs L a ccd cl outer) (call (.ref 103) [.int n t]) Q E s := by
  have hn : n = 4 ∨ n = 5 ∨ n = 6 ∨ n = 7 := by omega
  rcases hn with rfl | rfl | rfl | rfl
  all_goals refine wpAny_call ?_
  all_goals k_dflt ktr_enter
  all_goals k_steps
  all_goals (rename (∀ p, p ∈ news → p.1 < _) => l1)
  all_goals refine ret _ _ _ _ _ (by k_asm) (by k_asm) (fun p hp => Nat.ne_of_lt (l1 p hp)) ?_
  all_goals repeat' (first | exact IntsAre.nil | refine IntsAre.cons _ _ ?_)
end
end
end Mine
end S_S1
section G_D1
open PySem PySem.W PyProof.Rows Mine
local macro_rules | `(tactic| walk_at "InvPostN") => `(tactic| refine hold_of ?_)
local macro_rules | `(tactic| walk_at "pyIter ref") => `(tactic| (k_here; refine hold_of ?_))
section S_D1
open PySem PySem.W PyProof.Rows
namespace Mine
example (w : World) : (fun (_ : Frag) (_ : OpenLaw) => True) (Mine.hd.heap_39 w.params) PySem.Challenge.rw_tr0035_01 := by k_fill; trivial
example : True := by w_top off; trivial
set_option linter.unusedVariables false
set_option maxRecDepth 100000
set_option maxHeartbeats 8000000
theorem rest_f {n f : Nat} {p : Int} (hn2 : n ≤ 7) (hf : f ≤ 3) (h : 0 ≤ p ∧ p ≤ ((n - 1 : Nat) : Int)) : -100 ≤ (f : Int) + n - 2 * p ∧ (f : Int) + n - 2 * p < 100 ∧ ((f : Int) + n - 2 * p).toNat ≤ 100 := by omega
theorem rest_s {n s : Nat} {p : Int} (hn2 : n ≤ 7) (hs : s ≤ 3) (h : 0 ≤ p ∧ p ≤ ((n - 1 : Nat) : Int)) : -100 ≤ (s : Int) + n - 1 - 2 * p ∧ (s : Int) + n - 1 - 2 * p < 100 ∧ ((s : Int) + n - 1 - 2 * p).toNat ≤ 100 := by omega
theorem len_ok {a : Nat} (h : a ≤ 100) : 0 + 1 + a ≤ 16777216 ∧ 0 + 1 + a + (0 + 1) ≤ 16777216 := by omega
theorem size_ok {v w d i a : Nat} {g : Int} (e : v = d) (h : d ≤ 12 * i) (hi : i < g.toNat) (hg : 0 ≤ g ∧ g ≤ 21) (hw : w = 0 + 1 + a + (0 + 1)) (ha : a ≤ 100) : v + w ≤ 100000 := by omega
section
variable {w : World} {mean : ExcName → Option Value} {mg mb : Str → Option Value} {dp un : Nat} {gd : Option (List Code)} {cn : Str} {cs : Scope} {a : Addr} {ccd : Value} {cl : List (Str × Addr)} {outer : List Env} {A₀ : Around} {base h₀ : Heap} {L : Addr} {m : Str → Option Value} {news : List (Addr × Obj)} {s : Shared} {Q E : Value → Shared → Prop}
section
local macro_rules | `(tactic| walk_at "binaryOp Mult ref int") => `(tactic| (k_here; k_dflt (refine' rep_led ?F ?N ?l ?i ?lo ?hi ?_; (case F => k_asm); (case N => k_asm); (case l => k_mem); (case i => first | assumption | exact IntsAre.cons _ _ IntsAre.nil); (case lo => first | assumption | omega); (case hi => first | assumption | omega); intro D' h' w' F' N' lt' i'; (try dsimp only))))
local macro_rules | `(tactic| walk_at "binaryOp Add ref ref") => `(tactic| (k_here; k_dflt (refine' add_led ?F ?N ?l ?b ?i ?j ?z ?_; (case F => k_asm); (case N => k_asm); (case l => k_mem); (case b => k_mem); (case i => first | assumption | exact IntsAre.cons _ _ IntsAre.nil); (case j => first | assumption | exact IntsAre.cons _ _ IntsAre.nil); (case z => (simp only [List.length_append, List.length_cons, List.length_nil, List.length_replicate]; first | assumption | omega)); intro D' h' w' F' N' lt' i'; (try dsimp only))))
local macro_rules | `(tactic| walk_at "inplaceOp Add ref ref") => `(tactic| (k_here; refine hold_of ?_))
theorem ldue {n f s0 : Nat} {t1 t2 t3 : Tok} {Ls : Addr} {vsS : Array Value} {epS : Nat} {led : List (Addr × Obj)} (B : Below A₀ base outer h₀) (F : Fr h₀ L s.heap m) (X : (Mine.hd.heap_39 w.params).In h₀) (N : News h₀ L s.heap ((Ls, W.listOf vsS epS) :: led)) (T : Top VW (looseW VW []) mean mg mb h₀) (hk : cs.kind = .function) (hd : dp + 30 < recursionLimit) (hu : un + 280 < cLine)
    (hn1 : 4 ≤ n) (hn2 : n ≤ 7) (hf : f ≤ 3) (hs : s0 ≤ 3) (hS : IntsAre vsS.toList (szs n))
    (ret : ∀ D vs ep h' tk', Fr h₀ L h' m → News h₀ L h' ((D, W.listOf vs ep) :: (Ls, W.listOf vsS epS) :: led) → (∀ p ∈ (Ls, W.listOf vsS epS) :: led, p.1 ≠ D) → IntsAre vs.toList (dueL (szs n) n f s0 ((szs n).getD n 0).toNat) → Q (.ref D) { s with heap := h', toks := tk' }) :
    wpAny (model PG w) (ktrTop dp un gd cn cs L a ccd cl outer) (call (.ref 110) [.int n t1, .int f t2, .int s0 t3, .ref Ls]) Q E s := by
  have hlen := szs_len hn2
  have hlast := szs_last hn1 hn2
  refine wpAny_call ?_
  k_dflt ktr_enter
  k_steps
  refine of_hold ?_
  (rename Fr _ _ _ _ => lF'); (rename News _ _ _ _ => lN'); (rename IsRange _ _ _ _ _ _ _ _ => rgX)
  (rename (_ ∧ AllLt _ _) => l1)
  obtain ⟨D1, eD⟩ := name_news lN'
  subst eD
  have hadr2 : ∀ o : Obj, ((D1, o) :: (Ls, W.listOf vsS epS) :: led).map (·.1) = ((D1, W.listOf #[] 0) :: (Ls, W.listOf vsS epS) :: led).map (·.1) := fun _ => rfl
  have en : ((n : Int)).toNat = n := by omega
  rw [en] at rgX
  refine iter_rangeL (n := ((szs n).getD n 0).toNat) [Str.ofString "rest", Str.ofString "parts", Str.ofString "least", Str.ofString "j"] (fun i nx => ∃ vs ep, nx = (D1, W.listOf vs ep) :: (Ls, W.listOf vsS epS) :: led ∧ IntsAre vs.toList (dueL (szs n) n f s0 i)) (by rfl) rgX (small_one (by decide) (by decide) (by omega) (by omega)) (by rw [rangeSize_nat]; omega) lF' lN' ⟨_, _, rfl, .nil⟩ ?_ ?_
  · rintro i t u nx h tk own hi hadr hoff ⟨vs, ep, rfl, hvs⟩ F' N'
    clear lF' lN' rgX
    k_steps
    refine of_hold ?_
    (rename Fr _ _ _ _ => lF'); (rename News _ _ _ _ => lN'); (rename IsRange _ _ _ _ _ _ _ _ => rgX)
    refine iter_range3 (n := n - 1) (y := Str.ofString "rest") (y' := Str.ofString "parts") (y'' := Str.ofString "least") (fun q v v' v'' => ∃ tv tv', v = .int (ist (szs n) n (0 + (i : Int) * 1) q).1 tv ∧ v' = .int (ist (szs n) n (0 + (i : Int) * 1) q).2.1 tv' ∧ v'' = .bool (ist (szs n) n (0 + (i : Int) * 1) q).2.2) (by rfl) rgX (small_down (by omega) (by omega) (by decide) (by decide)) (by rw [rangeSize_downNat]; omega) lF' lN' rfl rfl rfl ⟨_, _, rfl, rfl, rfl⟩ ?_ ?_
    · rintro q t2 _ _ _ h2 tk2 own2 hq hoff2 ⟨tv, tv', rfl, rfl, rfl⟩ F' N'
      clear lF' lN' rgX
      have hpq := ist_parts (szs n) n (0 + (i : Int) * 1) q
      k_steps
      · refine of_hold ?_
        (rename (_ ≤ (ist _ _ _ _).1) => hc)
        refine InvEndN.intro (by assumption) (by assumption) ⟨rfl, _, _, _, rfl, rfl, rfl, ?ex0, ?hm0⟩ rfl (fun p hp => List.mem_append.mpr (.inl hp)) (fun p hp => List.mem_append.mpr (.inr hp))
        case ex0 => rw [ist_yes hc]; exact ⟨_, _, rfl, rfl, rfl⟩
        case hm0 => intro z h1 h2 h3 h4; simp only [h1, h2, h3, h4, if_false]
      · refine of_hold ?_
        (rename (¬ _ ≤ (ist _ _ _ _).1) => hc)
        refine InvEndN.intro (by assumption) (by assumption) ⟨rfl, _, _, _, rfl, rfl, rfl, ?ex1, ?hm1⟩ rfl (fun p hp => List.mem_append.mpr (.inl hp)) (fun p hp => List.mem_append.mpr (.inr hp))
        case ex1 => rw [ist_no hc]; exact ⟨_, _, rfl, rfl, rfl⟩
        case hm1 => intro z h1 h2 h3 h4; simp only [h1, h2, h3, h4, if_false]
    · rintro u2 _ _ _ h2 tk2 ⟨tv, tv', rfl, rfl, rfl⟩ F' N'
      clear lF' lN' rgX
      have hpq := ist_parts (szs n) n (0 + (i : Int) * 1) (n - 1)
      obtain ⟨rf1, rf2, rf3⟩ := rest_f hn2 hf hpq
      obtain ⟨rs1, rs2, rs3⟩ := rest_s hn2 hs hpq
      obtain ⟨rf4, rf5⟩ := len_ok rf3
      obtain ⟨rs4, rs5⟩ := len_ok rs3
      k_steps
      · refine of_hold ?_
        (rename News _ _ _ _ => lN'); (rename IntsAre _ _ => iS); (rename (_ < _ ∧ _ < _ ∧ _ < _ ∧ _ < _ ∧ _ < _ ∧ AllLt _ _) => lS)
        obtain ⟨S1, eS⟩ := name_news lN'
        subst eS
        have hDS : D1 < S1 := lS.2.2.2.2.2.1
        have N2 := news_sub lN' (news' := (D1, W.listOf vs ep) :: (S1, _) :: (((Ls, W.listOf vsS epS) :: led) ++ own)) (List.forall_mem_cons.mpr ⟨by k_mem, List.forall_mem_cons.mpr ⟨List.Mem.head _, fun p hp => by repeat (first | exact hp | refine List.Mem.tail _ ?_)⟩⟩)
        have hne : ∀ o : Obj, ∀ p ∈ (S1, o) :: (((Ls, W.listOf vsS epS) :: led) ++ own), p.1 ≠ D1 := fun o => List.forall_mem_cons.mpr ⟨Nat.ne_of_gt hDS, fun p hp => (List.mem_append.mp hp).elim (fun h => (List.mem_cons.mp h).elim (fun e => by rw [e]; exact Nat.ne_of_lt l1.1) (fun h => Nat.ne_of_lt (ktn_ltOf l1.2 p h))) (fun h => hoff.ne (List.Mem.head _) p h)⟩
        have hSl := iS.length
        have hvl := hvs.length
        have hdl := dueL_len (ns := szs n) (n := n) (f := f) (s := s0) hn2 hf hs i
        simp only [List.length_append, List.length_cons, List.length_nil, List.length_replicate] at hSl
        rw [Array.length_toList] at hvl
        refine iadd_led (by k_asm) N2 (UpdF.head (hne _)) (.tail _ (.head _)) (by simp only [List.size_toArray]; exact size_ok hvl hdl hi hlast hSl (by assumption)) ?_
        intro h8 n8 F8 N8
        clear lN' N2
        k_steps
        refine of_hold ?_
        (rename ((ist _ _ _ _).2.2 = _) => hB)
        (rename News _ _ _ _ => N9)
        refine InvEndN.intro (by assumption) N9 ⟨⟨vs ++ _, n8, rfl, ?hints3⟩, ?hm3⟩ (hadr2 _) (List.forall_mem_cons.mpr ⟨List.Mem.head _, List.forall_mem_cons.mpr ⟨List.Mem.tail _ (List.Mem.tail _ (List.Mem.head _)), fun p hp => List.Mem.tail _ (List.Mem.tail _ (List.Mem.tail _ (List.mem_append.mpr (.inl hp))))⟩⟩) (fun p hp => List.Mem.tail _ (List.Mem.tail _ (List.Mem.tail _ (List.mem_append.mpr (.inr hp)))))
        case hints3 =>
          rw [Array.toList_append]
          refine IntsAre.append hvs ?_
          first | rw [dueOne_yes hB] | rw [dueOne_no hB]
          first | (simp only [again_is, ltc_is] at iS; exact iS) | (simp only [again_is, gtc_is] at iS; exact iS)
        case hm3 =>
          intro z h1 h2
          have h3 := h2
          simp only [List.mem_cons, List.not_mem_nil, not_or, or_false] at h3
          obtain ⟨a1, a2, a3, a4⟩ := h3
          by_cases h5 : z = Str.ofString "due"
          · simp only [h5, if_true]
          · simp only [h1, a1, a2, a3, a4, h2, h5, if_false]
      · refine of_hold ?_
        (rename News _ _ _ _ => lN'); (rename IntsAre _ _ => iS); (rename (_ < _ ∧ _ < _ ∧ _ < _ ∧ _ < _ ∧ _ < _ ∧ AllLt _ _) => lS)
        obtain ⟨S1, eS⟩ := name_news lN'
        subst eS
        have hDS : D1 < S1 := lS.2.2.2.2.2.1
        have N2 := news_sub lN' (news' := (D1, W.listOf vs ep) :: (S1, _) :: (((Ls, W.listOf vsS epS) :: led) ++ own)) (List.forall_mem_cons.mpr ⟨by k_mem, List.forall_mem_cons.mpr ⟨List.Mem.head _, fun p hp => by repeat (first | exact hp | refine List.Mem.tail _ ?_)⟩⟩)
        have hne : ∀ o : Obj, ∀ p ∈ (S1, o) :: (((Ls, W.listOf vsS epS) :: led) ++ own), p.1 ≠ D1 := fun o => List.forall_mem_cons.mpr ⟨Nat.ne_of_gt hDS, fun p hp => (List.mem_append.mp hp).elim (fun h => (List.mem_cons.mp h).elim (fun e => by rw [e]; exact Nat.ne_of_lt l1.1) (fun h => Nat.ne_of_lt (ktn_ltOf l1.2 p h))) (fun h => hoff.ne (List.Mem.head _) p h)⟩
        have hSl := iS.length
        have hvl := hvs.length
        have hdl := dueL_len (ns := szs n) (n := n) (f := f) (s := s0) hn2 hf hs i
        simp only [List.length_append, List.length_cons, List.length_nil, List.length_replicate] at hSl
        rw [Array.length_toList] at hvl
        refine iadd_led (by k_asm) N2 (UpdF.head (hne _)) (.tail _ (.head _)) (by simp only [List.size_toArray]; exact size_ok hvl hdl hi hlast hSl (by assumption)) ?_
        intro h8 n8 F8 N8
        clear lN' N2
        k_steps
        refine of_hold ?_
        (rename ((ist _ _ _ _).2.2 = _) => hB)
        (rename News _ _ _ _ => N9)
        refine InvEndN.intro (by assumption) N9 ⟨⟨vs ++ _, n8, rfl, ?hints4⟩, ?hm4⟩ (hadr2 _) (List.forall_mem_cons.mpr ⟨List.Mem.head _, List.forall_mem_cons.mpr ⟨List.Mem.tail _ (List.Mem.tail _ (List.Mem.head _)), fun p hp => List.Mem.tail _ (List.Mem.tail _ (List.Mem.tail _ (List.mem_append.mpr (.inl hp))))⟩⟩) (fun p hp => List.Mem.tail _ (List.Mem.tail _ (List.Mem.tail _ (List.mem_append.mpr (.inr hp)))))
        case hints4 =>
          rw [Array.toList_append]
          refine IntsAre.append hvs ?_
          first | rw [dueOne_yes hB] | rw [dueOne_no hB]
          first | (simp only [again_is, ltc_is] at iS; exact iS) | (simp only [again_is, gtc_is] at iS; exact iS)
        case hm4 =>
          intro z h1 h2
          have h3 := h2
          simp only [List.mem_cons, List.not_mem_nil, not_or, or_false] at h3
          obtain ⟨a1, a2, a3, a4⟩ := h3
          by_cases h5 : z = Str.ofString "due"
          · simp only [h5, if_true]
          · simp only [h1, a1, a2, a3, a4, h2, h5, if_false]
  · rintro u nx h tk ⟨vs, ep, rfl, hvs⟩ F' N'
    clear lF' lN' rgX
    k_steps
    exact ret _ _ _ _ _ (by k_asm) (by k_asm) (fun p hp => Nat.ne_of_lt (ktn_ltOf (show AllLt D1 ((Ls, W.listOf vsS epS) :: led) from l1) p hp)) hvs
end
end
end Mine
end S_D1
section S_C6
open PySem PySem.W PyProof.Rows PySem.Calls PyProof.V PySem.Spec
namespace Mine
theorem intsAre_set {vs : List Value} {ns : List Int} (hi : IntsAre vs ns) : ∀ (k : Nat) (a : Int) (t : Tok), IntsAre (vs.set k (.int a t)) (ns.set k a) := by
  induction hi with
  | nil => intro k a t; exact .nil
  | cons n u _ ih =>
    intro k a t
    cases k with
    | zero => exact .cons _ _ (by assumption)
    | succ k => exact .cons _ _ (ih k a t)
section
variable {prog : Program} {w : World} {A : Around} {E : Value → Shared → Prop} {s : Shared} {h₀ : Heap} {L : Addr} {m : Str → Option Value} {news : List (Addr × Obj)} {env : Env}
theorem getBack {D : Addr} {vs : Array Value} {ep : Nat} {ns : List Int} {k : Int} {u : Tok} {Q : Value → Shared → Prop} (N : News h₀ L s.heap news) (hm : (D, W.listOf vs ep) ∈ news) (hi : IntsAre vs.toList ns)
    (h0 : k < 0) (h1 : -(ns.length : Int) ≤ k) (hfit : -(2 ^ 63) ≤ k) (h : ∀ t, Q (.int (ns.getD (k + ns.length).toNat 0) t) s) :
    wpAny (model prog w) A (getItem (.ref D) (.int k u)) Q E s := by
  have hL : s.heap.IsList D vs := ⟨_, (N _ hm).1, rfl, ep, rfl⟩
  have hl := hi.length
  rw [Array.length_toList] at hl
  obtain ⟨t, ht⟩ := ints_get hi (i := (k + ns.length).toNat) (by omega)
  rw [← hl] at ht
  refine wpAny_getItem_list_neg hL h0 (by omega) hfit (by rw [← Array.getElem?_toList]; exact ht) ?_
  rw [hl]; exact h t
theorem setBack {D : Addr} {vs : Array Value} {ep : Nat} {k : Int} {u : Tok} {v : Value} {g : Obj → List (Addr × Obj)} {Q : Unit → Shared → Prop} (F : Fr h₀ L s.heap m) (N : News h₀ L s.heap news) (U : UpdF D (W.listOf vs ep) news g)
    (h0 : k < 0) (h1 : -(vs.size : Int) ≤ k) (hfit : -(2 ^ 63) ≤ k)
    (h : ∀ h', Fr h₀ L h' m → News h₀ L h' (g (W.listOf (vs.setIfInBounds (k + vs.size).toNat v) ep)) → Q () { s with heap := h' }) :
    wpAny (model prog w) A (setItem (.ref D) (.int k u) v) Q E s := by
  obtain ⟨pre, post, rfl, hg, a, b⟩ := U.split
  have z := N (D, W.listOf vs ep) (List.mem_append.mpr (.inr (.head _)))
  refine ki_setBack z.1 h0 h1 hfit (h _ (F.change (Heap.SameBut.update ..) z.2.1 z.2.2) ?_)
  rw [hg]
  exact ki_turn _ N a b rfl (by simp)
theorem appLed {D : Addr} {vs : Array Value} {ep : Nat} {x : Value} {g : Obj → List (Addr × Obj)} {Q : Value → Shared → Prop} (F : Fr h₀ L s.heap m) (N : News h₀ L s.heap news) (U : UpdF D (W.listOf vs ep) news g) (hsz : vs.size ≤ 100000)
    (h : ∀ h', Fr h₀ L h' m → News h₀ L h' (g (W.listOf (vs.push x) (ep + 1))) → Q .none { s with heap := h' }) :
    wpAny (model prog w) A (call (.builtin "list.append") [.ref D, x]) Q E s := by
  obtain ⟨pre, post, rfl, hg, a, b⟩ := U.split
  have z := N (D, W.listOf vs ep) (List.mem_append.mpr (.inr (.head _)))
  have hl : sizeLine = 16777216 := sizeLine_eq
  exact append_at (hsz := by omega) z.1 fun h' hs ho' => h h' (F.change hs z.2.1 z.2.2) (by rw [hg]; exact news_set N a b hs ho')
theorem setFwd {D : Addr} {vs : Array Value} {ep : Nat} {k : Int} {u : Tok} {v : Value} {g : Obj → List (Addr × Obj)} {Q : Unit → Shared → Prop} (F : Fr h₀ L s.heap m) (N : News h₀ L s.heap news) (U : UpdF D (W.listOf vs ep) news g)
    (h0 : 0 ≤ k) (h1 : k < vs.size) (hfit : k < 2 ^ 63)
    (h : ∀ h', Fr h₀ L h' m → News h₀ L h' (g (W.listOf (vs.setIfInBounds k.toNat v) ep)) → Q () { s with heap := h' }) :
    wpAny (model prog w) A (setItem (.ref D) (.int k u) v) Q E s := by
  obtain ⟨pre, post, rfl, hg, a, b⟩ := U.split
  have z := N (D, W.listOf vs ep) (List.mem_append.mpr (.inr (.head _)))
  refine ki_setAt z.1 h0 hfit h1 (h _ (F.change (Heap.SameBut.update ..) z.2.1 z.2.2) ?_)
  rw [hg]
  exact ki_turn _ N a b rfl (by simp)
end
section
variable {prog : Program} {w : World} {A : Around} {E : Value → Shared → Prop} {s : Shared} {env : Env} {h₀ : Heap} {x : Str} {body : List Stmt} {Q : Flow → Shared → Prop}
/-- a loop over a list of ints on the ledger that forgets the names it stores -/
theorem iter_listL {l : Addr} {vs : Array Value} {ns : List Int} {nn : Nat} {m₀ : Str → Option Value} {news : List (Addr × Obj)} (st : List Str) (R : Nat → List (Addr × Obj) → Prop)
    (hh : A.handled = none) (hl : (l, W.listOf vs nn) ∈ news) (hi : IntsAre vs.toList ns) (F : Fr h₀ env.locals s.heap m₀) (N : News h₀ env.locals s.heap news) (hR : R 0 news)
    (turn : ∀ (i : Nat) n t (u : Str → Option Value) nx h tk own, ns[i]? = some n → nx.map (·.1) = news.map (·.1) → OwnOff own (news.map (·.1)) → (l, W.listOf vs nn) ∈ nx → R i nx → Fr h₀ env.locals h (fun z => if z = x then some (.int n t) else if z ∈ st then u z else m₀ z) → News h₀ env.locals h (nx ++ own) →
      wpAny (model prog w) A (execs body env) (InvPostN h₀ env.locals (fun m' nx' => (l, W.listOf vs nn) ∈ nx' ∧ R (i + 1) nx' ∧ ∀ z, z ≠ x → z ∉ st → m' z = m₀ z) own (news.map (·.1)) { s with heap := h, toks := tk } Q) E { s with heap := h, toks := tk })
    (done : ∀ (u : Str → Option Value) nx h tk, (l, W.listOf vs nn) ∈ nx → R ns.length nx → Fr h₀ env.locals h (fun z => if z = x then u z else if z ∈ st then u z else m₀ z) → News h₀ env.locals h nx → Q .next { s with heap := h, toks := tk }) :
    wpAny (model prog w) A (pyIter (.ref l)) (fun it s₂ => LoopAtV prog w A h₀ env x body Q E it s₂) E s := by
  obtain ⟨vl⟩ := vs
  refine iter_invNL (vs := vl) (fun i m' nx => R i nx ∧ ∀ z, z ≠ x → z ∉ st → m' z = m₀ z) hh hl hi F N ⟨hR, fun _ _ _ => rfl⟩ ?_ ?_
  · rintro i n t m₁ nx h tk own hi ha ho hl' ⟨hR', hm⟩ F' N'
    rw [map_st hm] at F'
    exact turn i n t m₁ nx h tk own hi ha ho hl' hR' F' N'
  · rintro m₁ nx h tk hl' ⟨hR', hm⟩ F' N'
    rw [map_st' hm] at F'
    exact done m₁ nx h tk hl' hR' F' N'
end
noncomputable def bump (l : List Int) : List Int := l.set (-1 + (l.length : Int)).toNat (l.getD (-1 + (l.length : Int)).toNat 0 + 1)
noncomputable def ageStep (l : List Int) (x : Int) : List Int := if x = 38 then l ++ [0] else if x = againC then bump l else l
noncomputable def agesL (ns : List Int) : List Int := ns.foldl ageStep []
theorem ageStep_new {l : List Int} {x : Int} (h : x = 38) : ageStep l x = l ++ [0] := by unfold ageStep; rw [if_pos h]
theorem ageStep_up {l : List Int} {x : Int} (h : ¬ x = 38) (h2 : x = againC) : ageStep l x = bump l := by unfold ageStep; rw [if_neg h, if_pos h2]
theorem ageStep_no {l : List Int} {x : Int} (h : ¬ x = 38) (h2 : ¬ x = againC) : ageStep l x = l := by unfold ageStep; rw [if_neg h, if_neg h2]
theorem take_step {ns : List Int} {i : Nat} {x : Int} (h : ns[i]? = some x) : agesL (ns.take (i + 1)) = ageStep (agesL (ns.take i)) x := by
  obtain ⟨hlt, e⟩ := List.getElem?_eq_some_iff.mp h
  unfold agesL
  rw [List.take_succ_eq_append_getElem hlt, List.foldl_append, e]
  rfl
theorem ageStep_len {l : List Int} {x : Int} : l.length ≤ (ageStep l x).length ∧ (ageStep l x).length ≤ l.length + 1 := by
  unfold ageStep
  split
  · simp
  · split
    · unfold bump; simp
    · simp
theorem agesL_len {ns : List Int} : (agesL ns).length ≤ ns.length := by
  have : ∀ (ns : List Int) (l : List Int), (ns.foldl ageStep l).length ≤ l.length + ns.length := by
    intro ns
    induction ns with
    | nil => intro l; simp
    | cons a r ih =>
      intro l
      have h1 := ih (ageStep l a)
      have h2 := (ageStep_len (l := l) (x := a)).2
      simp only [List.foldl_cons, List.length_cons]; omega
  have h := this ns []
  simpa [agesL] using h
theorem agesL_pos {ns : List Int} {i : Nat} (h0 : ns[0]? = some 38) (hi : 0 < i) : 0 < (agesL (ns.take i)).length := by
  have grow : ∀ (ns : List Int) (l : List Int), l.length ≤ (ns.foldl ageStep l).length := by
    intro ns
    induction ns with
    | nil => intro l; exact Nat.le_refl _
    | cons a r ih => intro l; exact Nat.le_trans (ageStep_len (l := l) (x := a)).1 (ih _)
  cases ns with
  | nil => simp at h0
  | cons a r =>
    simp only [List.getElem?_cons_zero, Option.some.injEq] at h0
    subst h0
    cases i with
    | zero => omega
    | succ i =>
      have := grow (r.take i) (ageStep [] 38)
      have e : (ageStep [] 38).length = 1 := by decide
      simp only [agesL, List.take_succ_cons, List.foldl_cons]
      omega
end Mine
end S_C6
section S_A1
open PySem PySem.W PyProof.Rows
namespace Mine
example (w : World) : (fun (_ : Frag) (_ : OpenLaw) => True) (Mine.hd.heap_39 w.params) PySem.Challenge.rw_tr0035_01 := by k_fill; trivial
example : True := by w_top off; trivial
set_option linter.unusedVariables false
set_option maxRecDepth 100000
set_option maxHeartbeats 8000000
section
variable {w : World} {mean : ExcName → Option Value} {mg mb : Str → Option Value} {dp un : Nat} {gd : Option (List Code)} {cn : Str} {cs : Scope} {a : Addr} {ccd : Value} {cl : List (Str × Addr)} {outer : List Env} {A₀ : Around} {base h₀ : Heap} {L : Addr} {m : Str → Option Value} {news : List (Addr × Obj)} {s : Shared} {Q E : Value → Shared → Prop}
section
local macro_rules | `(tactic| walk_at "compareOp Eq int int") => `(tactic| (k_here; simp only [again_is]))
local macro_rules | `(tactic| walk_at "call builtin:list.append") => `(tactic| (k_here; refine hold_of ?_))
local macro_rules | `(tactic| walk_at "getItem") => `(tactic| (k_here; refine hold_of ?_))
local macro_rules | `(tactic| walk_at "setItem") => `(tactic| (k_here; refine hold_of ?_))
theorem lages {ns : List Int} {Ln : Addr} {vsN : Array Value} {epN : Nat} {led : List (Addr × Obj)} (B : Below A₀ base outer h₀) (F : Fr h₀ L s.heap m) (X : (Mine.hd.heap_39 w.params).In h₀) (N : News h₀ L s.heap ((Ln, W.listOf vsN epN) :: led)) (T : Top VW (looseW VW []) mean mg mb h₀) (hk : cs.kind = .function) (hd : dp + 30 < recursionLimit) (hu : un + 280 < cLine)
    (hN : IntsAre vsN.toList ns) (h38 : ns[0]? = some 38) (hlen : ns.length ≤ 1000)
    (ret : ∀ D vs ep h' tk', Fr h₀ L h' m → News h₀ L h' ((D, W.listOf vs ep) :: (Ln, W.listOf vsN epN) :: led) → (∀ p ∈ (Ln, W.listOf vsN epN) :: led, p.1 ≠ D) → IntsAre vs.toList (agesL ns) → Q (.ref D) { s with heap := h', toks := tk' }) :
    wpAny (model PG w) (ktrTop dp un gd cn cs L a ccd cl outer) (call (.ref 117) [.ref Ln]) Q E s := by
  refine wpAny_call ?_
  k_dflt ktr_enter
  k_steps
  refine of_hold ?_
  (rename Fr _ _ _ _ => lF'); (rename News _ _ _ _ => lN')
  (rename (_ ∧ AllLt _ _) => l1)
  obtain ⟨D1, eD⟩ := name_news lN'
  subst eD
  have hadr2 : ∀ o : Obj, ((D1, o) :: (Ln, W.listOf vsN epN) :: led).map (·.1) = ((D1, W.listOf #[] 0) :: (Ln, W.listOf vsN epN) :: led).map (·.1) := fun _ => rfl
  refine iter_listL [] (fun i nx => ∃ vs ep, nx = (D1, W.listOf vs ep) :: (Ln, W.listOf vsN epN) :: led ∧ IntsAre vs.toList (agesL (ns.take i))) (by rfl) (.tail _ (.head _)) (by assumption) lF' lN' ⟨_, _, rfl, .nil⟩ ?_ ?_
  · rintro i x t u nx h tk own hx hadr hoff hl' ⟨vs, ep, rfl, hvs⟩ F' N'
    clear lF' lN'
    have hvl := hvs.length
    have hal := agesL_len (ns := ns.take i)
    have hil := (List.getElem?_eq_some_iff.mp hx).1
    rw [Array.length_toList] at hvl
    rw [List.length_take] at hal
    have hap := fun h => agesL_pos (ns := ns) (i := i) h38 h
    have hne : ∀ p ∈ (Ln, W.listOf vsN epN) :: (led ++ own), p.1 ≠ D1 := fun p hp => (List.mem_cons.mp hp).elim (fun e => by rw [e]; exact Nat.ne_of_lt l1.1) (fun hp => (List.mem_append.mp hp).elim (fun h => Nat.ne_of_lt (ktn_ltOf l1.2 p h)) (fun h => hoff.ne (List.Mem.head _) p h))
    k_steps
    · refine of_hold ?_
      (rename (x = 38) => hc); (rename News _ _ _ _ => N1)
      have N2 : News _ _ _ ((D1, W.listOf vs ep) :: (Ln, W.listOf vsN epN) :: (led ++ own)) := N1
      refine appLed (by k_asm) N2 (UpdF.head hne) (by omega) ?_
      intro h8 F8 N8
      clear N1 N2
      k_steps
      refine of_hold ?_
      (rename News _ _ _ _ => N9)
      refine InvEndN.intro (by assumption) N9 ⟨List.Mem.tail _ (List.Mem.head _), ⟨vs.push _, ep + 1, rfl, ?hints1⟩, fun z h1 h2 => by simp only [h1, h2, if_false]⟩ (hadr2 _) (List.forall_mem_cons.mpr ⟨List.Mem.head _, List.forall_mem_cons.mpr ⟨List.Mem.tail _ (List.Mem.head _), fun p hp => List.Mem.tail _ (List.Mem.tail _ (List.mem_append.mpr (.inl hp)))⟩⟩) (fun p hp => List.Mem.tail _ (List.Mem.tail _ (List.mem_append.mpr (.inr hp))))
      case hints1 =>
        rw [take_step hx, ageStep_new hc, Array.toList_push]
        exact IntsAre.append hvs (.cons _ _ .nil)
    · refine of_hold ?_
      (rename (¬ x = 38) => hc); (rename (x = againC) => hc2); (rename News _ _ _ _ => N1)
      have hi0 : 0 < i := by
        rcases Nat.eq_zero_or_pos i with h | h
        · subst h; rw [h38] at hx; exact absurd (Option.some.inj hx).symm hc
        · exact h
      have hap2 := hap hi0
      have N2 : News _ _ _ ((D1, W.listOf vs ep) :: (Ln, W.listOf vsN epN) :: (led ++ own)) := N1
      refine getBack N2 (.head _) hvs (by omega) (by omega) (by omega) ?_
      intro t9
      (try dsimp only)
      k_steps
      refine of_hold ?_
      refine setBack (by k_asm) N2 (UpdF.head hne) (by omega) (by omega) (by omega) ?_
      intro h8 F8 N8
      clear N1 N2
      k_steps
      refine of_hold ?_
      (rename News _ _ _ _ => N9)
      refine InvEndN.intro (by assumption) N9 ⟨List.Mem.tail _ (List.Mem.head _), ⟨vs.setIfInBounds _ _, ep, rfl, ?hints2⟩, fun z h1 h2 => by simp only [h1, h2, if_false]⟩ (hadr2 _) (List.forall_mem_cons.mpr ⟨List.Mem.head _, List.forall_mem_cons.mpr ⟨List.Mem.tail _ (List.Mem.head _), fun p hp => List.Mem.tail _ (List.Mem.tail _ (List.mem_append.mpr (.inl hp)))⟩⟩) (fun p hp => List.Mem.tail _ (List.Mem.tail _ (List.mem_append.mpr (.inr hp))))
      case hints2 =>
        rw [take_step hx, ageStep_up hc hc2, Array.toList_setIfInBounds, hvl]
        exact intsAre_set hvs _ _ _
    · refine of_hold ?_
      (rename (¬ x = 38) => hc); (rename (¬ x = againC) => hc2); (rename News _ _ _ _ => N1)
      have N9 : News _ _ _ ((D1, W.listOf vs ep) :: (Ln, W.listOf vsN epN) :: (led ++ own)) := N1
      refine InvEndN.intro (by assumption) N9 ⟨List.Mem.tail _ (List.Mem.head _), ⟨vs, ep, rfl, ?hints3⟩, fun z h1 h2 => by simp only [h1, h2, if_false]⟩ (hadr2 _) (List.forall_mem_cons.mpr ⟨List.Mem.head _, List.forall_mem_cons.mpr ⟨List.Mem.tail _ (List.Mem.head _), fun p hp => List.Mem.tail _ (List.Mem.tail _ (List.mem_append.mpr (.inl hp)))⟩⟩) (fun p hp => List.Mem.tail _ (List.Mem.tail _ (List.mem_append.mpr (.inr hp))))
      case hints3 =>
        rw [take_step hx, ageStep_no hc hc2]
        exact hvs
  · rintro u nx h tk hl' ⟨vs, ep, rfl, hvs⟩ F' N'
    clear lF' lN'
    rw [List.take_length] at hvs
    k_steps
    exact ret _ _ _ _ _ (by k_asm) (by k_asm) (fun p hp => Nat.ne_of_lt (ktn_ltOf (show AllLt D1 ((Ln, W.listOf vsN epN) :: led) from l1) p hp)) hvs
end
end
end Mine
end S_A1
section S_C7
open PySem PySem.W PyProof.Rows PySem.Calls PyProof.V PySem.Spec
namespace Mine
theorem allObj_mono : ∀ {ws : List (Addr × String)} {k k' : List (Addr × Obj) → Prop}, (∀ its, k its → k' its) → AllObj ws k → AllObj ws k'
  | [], _, _, h, a => h _ a
  | _ :: _, _, _, h, a => fun o hc => allObj_mono (fun its => h _) (a o hc)
section
variable {prog : Program} {w : World} {A : Around} {E : Value → Shared → Prop} {s : Shared} {env : Env} {h₀ : Heap} {target : PySem.Expr} {body : List Stmt} {Q : Flow → Shared → Prop}
theorem endW {L : Addr} {its : List (Addr × Obj)} {rest : (Str → Option Value) → List (Addr × Obj) → Prop} {s₁ : Shared} {h' : Heap} {tk : Nat} {m' : Str → Option Value} {all : List (Addr × Obj)} (F : Fr h₀ L h' m') (N : News h₀ L h' all) (nx : List (Addr × Obj))
    (hI : ∀ p ∈ its, p ∈ all) (sub : ∀ p ∈ nx, p ∈ all) (off : ∀ p ∈ nx, ∀ q ∈ its, p.1 ≠ q.1) (r : rest m' nx) : UnrEndW h₀ L s₁ its rest { s₁ with heap := h', toks := tk } :=
  ⟨h', tk, m', nx, rfl, F, fun p hp => (List.mem_append.mp hp).elim (fun h => N p (hI p h)) (fun h => N p (sub p h)), off, r⟩
theorem itemsRest_inv {ws : List (Addr × String)} {keep : List (Addr × Obj)} {xs : List Itm} (J : Nat → (Str → Option Value) → List (Addr × Obj) → Prop)
    (turn : ∀ i a, xs[i]? = some a → ∀ m nx, SubL keep nx → J i m nx → ∀ v h tk, a.Is v h → Fr h₀ env.locals h m → AllObj ws (fun its => News h₀ env.locals h (its ++ nx) →
      wpAny (model prog w) A (assign target env v) (fun _ s₂ => wpAny (model prog w) A (execs body env) (UnrPostW h₀ env.locals { s with heap := h, toks := tk } its (fun m' n' => SubL keep n' ∧ J (i + 1) m' n') Q) E s₂) E { s with heap := h, toks := tk }))
    (done : ∀ m nx h tk, SubL keep nx → J xs.length m nx → Fr h₀ env.locals h m → News h₀ env.locals h nx → Q .next { s with heap := h, toks := tk }) :
    ∀ (k i : Nat), i + k = xs.length → ∀ m nx, SubL keep nx → J i m nx → ItemsRest prog w A E h₀ env target body Q s ws keep (xs.drop i) m nx
  | 0, i, hk, m, nx, hs, hJ => by
    have e : xs.drop i = [] := List.drop_eq_nil_of_le (by omega)
    have e2 : i = xs.length := by omega
    subst e2
    rw [e]
    exact fun h tk F N => done m nx h tk hs hJ F N
  | k + 1, i, hk, m, nx, hs, hJ => by
    have hlt : i < xs.length := by omega
    rw [List.drop_eq_getElem_cons hlt]
    intro v h tk hv F
    refine allObj_mono (fun its g N => ?_) (turn i xs[i] (List.getElem?_eq_getElem hlt) m nx hs hJ v h tk hv F)
    refine wpAny_mono (g N) (fun _ s₂ h₂ => wpAny_mono h₂ (fun f s₃ p => ?_) fun _ _ e => e) fun _ _ e => e
    have fin : UnrEndW h₀ env.locals { s with heap := h, toks := tk } its (fun m' n' => SubL keep n' ∧ J (i + 1) m' n') s₃ →
        UnrEndW h₀ env.locals { s with heap := h, toks := tk } its (fun m' n' => SubL keep n' ∧ ItemsRest prog w A E h₀ env target body Q s ws keep (xs.drop (i + 1)) m' n') s₃ := by
      rintro ⟨h', tk', m', nx', e, F', N', ho, hs', hJ'⟩
      exact ⟨h', tk', m', nx', e, F', N', ho, hs', itemsRest_inv J turn done k (i + 1) (by omega) m' nx' hs' hJ'⟩
    cases f with
    | ret v => exact p
    | brk => exact p
    | next => exact fin p
    | cont => exact fin p
/-- a loop over enumerate(list of ints on the ledger), the ledger may grow -/
theorem iter_enumL {elts : List PySem.Expr} {kk : Nat} {pos : Pos} {l : Addr} {vs : Array Value} {nn : Nat} {ns : List Int} {m₀ : Str → Option Value} {news : List (Addr × Obj)} (J : Nat → (Str → Option Value) → List (Addr × Obj) → Prop)
    (hh : A.handled = none) (hl : (l, W.listOf vs nn) ∈ news) (hi : IntsAre vs.toList ns) (F : Fr h₀ env.locals s.heap m₀) (N : News h₀ env.locals s.heap news) (hj : J 0 m₀ news)
    (turn : ∀ (I : Addr), (∀ p ∈ news, p.1 < I) → ∀ (i : Nat) n t t' T m₁ nx h tk oe oi, ns[i]? = some n → (l, W.listOf vs nn) ∈ nx → J i m₁ nx → IsTup h T #[.int (i : Int) t, .int n t'] → oe.cls = .type "enumerate" → oi.cls = .type "list_iterator" → Fr h₀ env.locals h m₁ → News h₀ env.locals h ((I + 1, oe) :: (I, oi) :: nx) →
      wpAny (model prog w) A (assign (.Tuple elts kk pos) env (.ref T)) (fun _ s₂ => wpAny (model prog w) A (execs body env) (UnrPostW h₀ env.locals { s with heap := h, toks := tk } [(I + 1, oe), (I, oi)] (fun m' n' => SubL [(l, W.listOf vs nn)] n' ∧ J (i + 1) m' n') Q) E s₂) E { s with heap := h, toks := tk })
    (done : ∀ m₁ nx h tk, (l, W.listOf vs nn) ∈ nx → J ns.length m₁ nx → Fr h₀ env.locals h m₁ → News h₀ env.locals h nx → Q .next { s with heap := h, toks := tk }) :
    wpAny (model prog w) A (call (.type "enumerate") [.ref l]) (fun xv s₁ => wpAny (model prog w) A (pyIter xv) (fun it s₂ => TurnsAt prog w A h₀ env (.Tuple elts kk pos) body Q E it s₂) E s₁) E s := by
  obtain ⟨vl⟩ := vs
  have hlen := hi.length
  have hlen' : vl.length = ns.length := hlen
  refine ktu_enum (lo := W.listOf vl.toArray nn) (vs := vl) (n := nn) hh F N hl rfl rfl rfl ?_
  intro I hI
  have h0 := itemsRest_inv (prog := prog) (w := w) (A := A) (E := E) (s := s) (env := env) (h₀ := h₀) (target := .Tuple elts kk pos) (body := body) (Q := Q) (ws := [(I + 1, "enumerate"), (I, "list_iterator")]) (keep := [(l, W.listOf vl.toArray nn)]) (xs := enumItems 0 vl) J ?_ ?_ (enumItems 0 vl).length 0 (Nat.zero_add _) m₀ news (And.intro hl trivial) hj
  · exact h0
  · intro i a ha m nx hs hJ v h tk hv F' oe hoe oi hoi N'
    have hit : i < vl.length := by
      have := (List.getElem?_eq_some_iff.mp ha).1
      rwa [enumItems_length] at this
    obtain ⟨t', ht'⟩ := ints_get hi (i := i) (by omega)
    have ht2 : vl[i]? = some (.int (ns.getD i 0) t') := ht'
    have hg := enumItems_get vl 0 i ht2
    rw [ha] at hg
    have hg := Option.some.inj hg
    subst hg
    obtain ⟨T, t, rfl, hT⟩ := hv
    refine turn I hI i (ns.getD i 0) t t' T m nx h tk oe oi ?_ hs.1 hJ ?_ hoe hoi F' N'
    · simp [List.getD, (show i < ns.length by omega)]
    · simpa using hT
  · intro m nx h tk hs hJ F' N'
    rw [enumItems_length, hlen'] at hJ
    exact done m nx h tk hs.1 hJ F' N'
theorem map_in {st : List Str} {m₁ m₀ : Str → Option Value} (hm : ∀ z, z ∉ st → m₁ z = m₀ z) : m₁ = fun z => if z ∈ st then m₁ z else m₀ z := by
  funext z
  by_cases h2 : z ∈ st
  · simp only [if_pos h2]
  · simp only [if_neg h2]; exact hm z h2
theorem map_in3 {st : List Str} {y y' y'' : Str} {v v' v'' : Value} {m₁ m₀ : Str → Option Value} (ha : m₁ y = some v) (hb : m₁ y' = some v') (hc : m₁ y'' = some v'') (hm : ∀ z, z ≠ y → z ≠ y' → z ≠ y'' → z ∉ st → m₁ z = m₀ z) :
    m₁ = fun z => if z = y then some v else if z = y' then some v' else if z = y'' then some v'' else if z ∈ st then m₁ z else m₀ z := by
  funext z
  by_cases h2 : z = y
  · subst h2; simp [ha]
  · simp only [if_neg h2]
    by_cases h3 : z = y'
    · subst h3; simp [hb]
    · simp only [if_neg h3]
      by_cases h4 : z = y''
      · subst h4; simp [hc]
      · simp only [if_neg h4]
        by_cases h5 : z ∈ st
        · simp only [if_pos h5]
        · simp only [if_neg h5]; exact hm z h2 h3 h4 h5
theorem iter_enumS {elts : List PySem.Expr} {kk : Nat} {pos : Pos} {l : Addr} {vs : Array Value} {nn : Nat} {ns : List Int} {m₀ : Str → Option Value} {news : List (Addr × Obj)} (st : List Str) (R : Nat → List (Addr × Obj) → Prop)
    (hh : A.handled = none) (hl : (l, W.listOf vs nn) ∈ news) (hi : IntsAre vs.toList ns) (F : Fr h₀ env.locals s.heap m₀) (N : News h₀ env.locals s.heap news) (hj : R 0 news)
    (turn : ∀ (I : Addr), (∀ p ∈ news, p.1 < I) → ∀ (i : Nat) n t t' T (u : Str → Option Value) nx h tk oe oi, ns[i]? = some n → (l, W.listOf vs nn) ∈ nx → R i nx → IsTup h T #[.int (i : Int) t, .int n t'] → oe.cls = .type "enumerate" → oi.cls = .type "list_iterator" → Fr h₀ env.locals h (fun z => if z ∈ st then u z else m₀ z) → News h₀ env.locals h ((I + 1, oe) :: (I, oi) :: nx) →
      wpAny (model prog w) A (assign (.Tuple elts kk pos) env (.ref T)) (fun _ s₂ => wpAny (model prog w) A (execs body env) (UnrPostW h₀ env.locals { s with heap := h, toks := tk } [(I + 1, oe), (I, oi)] (fun m' n' => SubL [(l, W.listOf vs nn)] n' ∧ R (i + 1) n' ∧ ∀ z, z ∉ st → m' z = m₀ z) Q) E s₂) E { s with heap := h, toks := tk })
    (done : ∀ (u : Str → Option Value) nx h tk, (l, W.listOf vs nn) ∈ nx → R ns.length nx → Fr h₀ env.locals h (fun z => if z ∈ st then u z else m₀ z) → News h₀ env.locals h nx → Q .next { s with heap := h, toks := tk }) :
    wpAny (model prog w) A (call (.type "enumerate") [.ref l]) (fun xv s₁ => wpAny (model prog w) A (pyIter xv) (fun it s₂ => TurnsAt prog w A h₀ env (.Tuple elts kk pos) body Q E it s₂) E s₁) E s := by
  refine iter_enumL (fun i m' nx => R i nx ∧ ∀ z, z ∉ st → m' z = m₀ z) hh hl hi F N ⟨hj, fun _ _ => rfl⟩ ?_ ?_
  · rintro I hI i n t t' T m₁ nx h tk oe oi hx hl' ⟨hR, hm⟩ hT hoe hoi F' N'
    rw [map_in hm] at F'
    exact turn I hI i n t t' T m₁ nx h tk oe oi hx hl' hR hT hoe hoi F' N'
  · rintro m₁ nx h tk hl' ⟨hR, hm⟩ F' N'
    rw [map_in hm] at F'
    exact done m₁ nx h tk hl' hR F' N'
theorem iter_enum3 {elts : List PySem.Expr} {kk : Nat} {pos : Pos} {l : Addr} {vs : Array Value} {nn : Nat} {ns : List Int} {m₀ : Str → Option Value} {news : List (Addr × Obj)} {y y' y'' : Str} (st : List Str) (R : Nat → Value → Value → Value → List (Addr × Obj) → Prop) {w₀ w₀' w₀'' : Value}
    (hh : A.handled = none) (hl : (l, W.listOf vs nn) ∈ news) (hi : IntsAre vs.toList ns) (F : Fr h₀ env.locals s.heap m₀) (N : News h₀ env.locals s.heap news) (hy : m₀ y = some w₀) (hy' : m₀ y' = some w₀') (hy'' : m₀ y'' = some w₀'') (hj : R 0 w₀ w₀' w₀'' news)
    (turn : ∀ (I : Addr), (∀ p ∈ news, p.1 < I) → ∀ (i : Nat) n t t' T (u : Str → Option Value) v v' v'' nx h tk oe oi, ns[i]? = some n → (l, W.listOf vs nn) ∈ nx → R i v v' v'' nx → IsTup h T #[.int (i : Int) t, .int n t'] → oe.cls = .type "enumerate" → oi.cls = .type "list_iterator" →
      Fr h₀ env.locals h (fun z => if z = y then some v else if z = y' then some v' else if z = y'' then some v'' else if z ∈ st then u z else m₀ z) → News h₀ env.locals h ((I + 1, oe) :: (I, oi) :: nx) →
      wpAny (model prog w) A (assign (.Tuple elts kk pos) env (.ref T)) (fun _ s₂ => wpAny (model prog w) A (execs body env) (UnrPostW h₀ env.locals { s with heap := h, toks := tk } [(I + 1, oe), (I, oi)] (fun m' n' => SubL [(l, W.listOf vs nn)] n' ∧ ∃ v v' v'', m' y = some v ∧ m' y' = some v' ∧ m' y'' = some v'' ∧ R (i + 1) v v' v'' n' ∧ ∀ z, z ≠ y → z ≠ y' → z ≠ y'' → z ∉ st → m' z = m₀ z) Q) E s₂) E { s with heap := h, toks := tk })
    (done : ∀ (u : Str → Option Value) v v' v'' nx h tk, (l, W.listOf vs nn) ∈ nx → R ns.length v v' v'' nx → Fr h₀ env.locals h (fun z => if z = y then some v else if z = y' then some v' else if z = y'' then some v'' else if z ∈ st then u z else m₀ z) → News h₀ env.locals h nx → Q .next { s with heap := h, toks := tk }) :
    wpAny (model prog w) A (call (.type "enumerate") [.ref l]) (fun xv s₁ => wpAny (model prog w) A (pyIter xv) (fun it s₂ => TurnsAt prog w A h₀ env (.Tuple elts kk pos) body Q E it s₂) E s₁) E s := by
  refine iter_enumL (fun i m' nx => ∃ v v' v'', m' y = some v ∧ m' y' = some v' ∧ m' y'' = some v'' ∧ R i v v' v'' nx ∧ ∀ z, z ≠ y → z ≠ y' → z ≠ y'' → z ∉ st → m' z = m₀ z) hh hl hi F N ⟨_, _, _, hy, hy', hy'', hj, fun _ _ _ _ _ => rfl⟩ ?_ ?_
  · rintro I hI i n t t' T m₁ nx h tk oe oi hx hl' ⟨v, v', v'', ha, hb, hc, hR, hm⟩ hT hoe hoi F' N'
    rw [map_in3 ha hb hc hm] at F'
    exact turn I hI i n t t' T m₁ v v' v'' nx h tk oe oi hx hl' hR hT hoe hoi F' N'
  · rintro m₁ nx h tk hl' ⟨v, v', v'', ha, hb, hc, hR, hm⟩ F' N'
    rw [map_in3 ha hb hc hm] at F'
    exact done m₁ v v' v'' nx h tk hl' hR F' N'
end
theorem offI {I : Addr} {oe oi : Obj} {nx : List (Addr × Obj)} (h : ∀ p ∈ nx, p.1 < I) : ∀ p ∈ nx, ∀ q ∈ [(I + 1, oe), (I, oi)], p.1 ≠ q.1 := by
  intro p hp q hq
  have h1 : p.1 < I := h p hp
  rcases List.mem_cons.mp hq with rfl | hq
  · exact Nat.ne_of_lt (Nat.lt_succ_of_lt h1)
  · rcases List.mem_cons.mp hq with rfl | hq
    · exact Nat.ne_of_lt h1
    · exact nomatch hq
theorem fmod_nat (i n : Nat) : Int.fmod (i : Int) (n : Int) = ((i % n : Nat) : Int) := by
  rw [Int.fmod_eq_emod_of_nonneg _ (Int.natCast_nonneg n)]; rfl
theorem fmod_nat4 (i : Nat) : Int.fmod (i : Int) 4 = ((i % 4 : Nat) : Int) := fmod_nat i 4
end Mine
end S_C7
section G_L1
open PySem PySem.W PyProof.Rows Mine
local macro_rules | `(tactic| walk_at "exec For Tuple Call cons nil") => `(tactic| (k_here; (rename Fr _ _ _ _ => lF'); (with_unfolding_all refine' For_turns lF' ?_; k_whole)))
local macro_rules | `(tactic| walk_at "call type:enumerate") => `(tactic| (k_here; refine hold_of ?_))
local macro_rules | `(tactic| walk_at "UnrPostW") => `(tactic| refine hold_of ?_)
section S_L1
open PySem PySem.W PyProof.Rows
namespace Mine
example (w : World) : (fun (_ : Frag) (_ : OpenLaw) => True) (Mine.hd.heap_39 w.params) PySem.Challenge.rw_tr0035_01 := by k_fill; trivial
example : True := by w_top off; trivial
set_option linter.unusedVariables false
set_option maxRecDepth 100000
set_option maxHeartbeats 8000000
section
variable {w : World} {mean : ExcName → Option Value} {mg mb : Str → Option Value} {dp un : Nat} {gd : Option (List Code)} {cn : Str} {cs : Scope} {a : Addr} {ccd : Value} {cl : List (Str × Addr)} {outer : List Env} {A₀ : Around} {base h₀ : Heap} {L : Addr} {m : Str → Option Value} {news : List (Addr × Obj)} {s : Shared} {Q E : Value → Shared → Prop}
noncomputable def cellsT (ns : List Int) : Nat → List Int
  | 0 => [2, 0, 1, 2930]
  | i + 1 => (cellsT ns i).set (i % 4) ((cellsT ns i).getD (i % 4) 0 + Int.fmod (ns.getD i 0) 1000000)
theorem pow6_is : (10 ^ Int.toNat 6 : Int) = 1000000 := by decide
theorem cellsT_ok (ns : List Int) : ∀ i, (cellsT ns i).length = 4 ∧ ∀ j, 0 ≤ (cellsT ns i).getD j 0
  | 0 => ⟨rfl, fun j => by
    rcases j with _ | _ | _ | _ | j
    · exact (by decide : (0 : Int) ≤ 2)
    · exact (by decide : (0 : Int) ≤ 0)
    · exact (by decide : (0 : Int) ≤ 1)
    · exact (by decide : (0 : Int) ≤ 2930)
    · simp [cellsT]⟩
  | i + 1 => by
    obtain ⟨h1, h2⟩ := cellsT_ok ns i
    refine ⟨by simp only [cellsT, List.length_set]; exact h1, fun j => ?_⟩
    have h3 : 0 ≤ Int.fmod (ns.getD i 0) 1000000 := fmod_lo _ (by decide)
    have h4 := h2 (i % 4)
    have h5 := h2 j
    simp only [cellsT, List.getD_eq_getElem?_getD, List.getElem?_set] at h4 h5 ⊢
    split
    · split
      · simp only [Option.getD_some]
        simp only [List.getD_eq_getElem?_getD] at h3
        omega
      · simp
    · exact h5
section
local macro_rules | `(tactic| walk_at "setItem") => `(tactic| (k_here; (try dsimp only); refine hold_of ?_))
local macro_rules | `(tactic| walk_at "pad none") => `(tactic| skip)
theorem lcells {ns : List Int} {Ls : Addr} {vsS : Array Value} {led : List (Addr × Obj)} (B : Below A₀ base outer h₀) (F : Fr h₀ L s.heap m) (X : (Mine.hd.heap_39 w.params).In h₀) (N : News h₀ L s.heap led) (hL : h₀.IsList Ls vsS) (T : Top VW (looseW VW []) mean mg mb h₀) (hk : cs.kind = .function) (hd : dp + 30 < recursionLimit) (hu : un + 280 < cLine)
    (hN : IntsAre vsS.toList ns) (hlen : ns.length ≤ 63)
    (ret : ∀ D vs ep h' tk', Fr h₀ L h' m → News h₀ L h' ((D, W.listOf vs ep) :: led) → (∀ p ∈ led, p.1 ≠ D) → IntsAre vs.toList (cellsT (List.take 20 ns) (List.take 20 ns).length) → Q (.ref D) { s with heap := h', toks := tk' }) :
    wpAny (model PG w) (ktrTop dp un gd cn cs L a ccd cl outer) (call (.ref 84) [.ref Ls]) Q E s := by
  refine wpAny_call ?_
  k_dflt ktr_enter
  (rename (Fr h₀ L _ m) => FG9)
  have hL2 := hL.at fun o e => FG9.keep _ _ e
  k_steps
  refine of_hold ?_
  (rename Fr _ _ _ _ => lF'); (rename News _ _ _ _ => lN')
  (rename (_ < _ ∧ AllLt _ _) => l2)
  (rename (IntsAre _ (List.take 20 ns)) => hsl)
  obtain ⟨D2, eD⟩ := name_news lN'
  subst eD
  obtain ⟨D1, eD⟩ := name_news2 lN'
  subst eD
  refine iter_enumS (ns := List.take 20 ns) [Str.ofString "k", Str.ofString "x"] (fun i nx => ∃ vs ep, nx = (D2, _) :: (D1, W.listOf vs ep) :: led ∧ IntsAre vs.toList (cellsT (List.take 20 ns) i)) (by rfl) (.head _) hsl lF' lN' ⟨_, _, rfl, .cons _ _ (.cons _ _ (.cons _ _ (.cons _ _ .nil)))⟩ ?_ ?_
  · rintro I hI i x t t' T u nx h tk oe oi hx hl' ⟨vs, ep, rfl, hvs⟩ hT hoe hoi F' N'
    clear lF' lN'
    have hcl := (cellsT_ok (List.take 20 ns) i).1
    have hvl := hvs.length
    rw [Array.length_toList, hcl] at hvl
    have hfm := fmod_nat4 i
    have hI1 : D1 < I := hI _ (.tail _ (.head _))
    have hI2 : ∀ o : Obj, ∀ p ∈ (D2, _) :: (D1, o) :: led, p.1 < I := fun o => List.forall_mem_cons.mpr ⟨hI _ (.head _), List.forall_mem_cons.mpr ⟨hI1, fun p hp => hI p (.tail _ (.tail _ hp))⟩⟩
    have hne : ∀ p ∈ led, p.1 ≠ D1 := fun p hp => Nat.ne_of_lt ((by assumption : ∀ p ∈ led, p.1 < D1) p hp)
    k_steps
    refine of_hold ?_
    (rename News _ _ _ _ => N1)
    refine setFwd (k := Int.fmod (i : Int) 4) (by k_asm) N1 (.tail (Nat.ne_of_gt (Nat.lt_succ_of_lt hI1)) (.tail (Nat.ne_of_gt hI1) (.tail (Nat.ne_of_gt l2.1) (.head hne)))) (by rw [hfm]; omega) (by rw [hfm, hvl]; omega) (by rw [hfm]; omega) ?_
    intro h8 F8 N8
    clear N1
    k_steps
    refine of_hold ?_
    (rename News _ _ _ _ => N9)
    refine endW (by assumption) N9 ((D2, _) :: (D1, W.listOf (vs.setIfInBounds _ _) ep) :: led) (List.forall_mem_cons.mpr ⟨.head _, List.forall_mem_cons.mpr ⟨.tail _ (.head _), fun _ h => nomatch h⟩⟩) (fun p hp => .tail _ (.tail _ hp)) (offI (hI2 _)) ⟨And.intro (.head _) trivial, ⟨_, _, rfl, ?hints1⟩, ?hm1⟩
    case hints1 =>
      have hx2 : (List.take 20 ns).getD i 0 = x := by simp [List.getD, hx]
      rw [Array.toList_setIfInBounds, hfm, pow6_is]
      simp only [cellsT]
      rw [hx2]
      exact intsAre_set hvs _ _ _
    case hm1 =>
      intro z h1
      have h3 := h1
      simp only [List.mem_cons, List.not_mem_nil, not_or, or_false] at h3
      obtain ⟨a1, a2⟩ := h3
      simp only [a1, a2, h1, if_false]
  · rintro u nx h tk hl' ⟨vs, ep, rfl, hvs⟩ F' N'
    clear lF' lN'
    k_steps
    exact ret _ _ _ _ _ (by k_asm) (news_sub (by k_asm) (fun p hp => .tail _ hp)) (fun p hp => Nat.ne_of_lt ((by assumption : ∀ p ∈ led, p.1 < D1) p hp)) hvs
end
end
end Mine
end S_L1
section S_C8
open PySem PySem.W PyProof.Rows PySem.Calls PyProof.V PySem.Spec PySem.Flt
namespace Mine
noncomputable def maxF (x y z : UInt64) : UInt64 := if (Float64.cmp x y == some .lt) = true then (if (Float64.cmp y z == some .lt) = true then z else y) else (if (Float64.cmp x z == some .lt) = true then z else x)
noncomputable def minF (x y z : UInt64) : UInt64 := if (Float64.cmp y x == some .lt) = true then (if (Float64.cmp z y == some .lt) = true then z else y) else (if (Float64.cmp z x == some .lt) = true then z else x)
section
variable {prog : Program} {w : World} {A : Around} {E : Value → Shared → Prop} {s : Shared} {h₀ : Heap} {L : Addr} {m : Str → Option Value} {news : List (Addr × Obj)}
theorem max_three_num {Q : Value → Shared → Prop} {a b c : Value} (hh : A.handled = none) (ha : NumV a) (hb : NumV b) (hc : NumV c)
    (h : ∀ h' tk, (∀ c o, s.heap.get? c = some o → h'.get? c = some o) → Q (if ltV a b = true then (if ltV b c = true then c else b) else (if ltV a c = true then c else a)) { s with heap := h', toks := tk }) :
    wpAny (model prog w) A (call (.builtin "max") [a, b, c]) Q E s := by
  have hT : (s.heap.push { cls := .type "tuple", data := .seq #[a, b, c] }).IsTuple s.heap.objs.size #[a, b, c] := ⟨_, Heap.get?_push_size _ rfl, rfl, 0, rfl⟩
  refine call_max_three (wpAny_pyIter_tuple hT ?_)
  have hsz : (s.heap.push { cls := .type "tuple", data := .seq #[a, b, c] }).objs.size = s.heap.objs.size + 1 := Heap.size_push ..
  refine ⟨_, [_, s.heap.objs.size], [_], _, _, _, _, rfl, Walks.tuple (A := A.in1) hh _ s.heap.objs.size (by rw [hsz]; exact Nat.ne_of_lt (Nat.lt_succ_self _)) #[a, b, c],
    ⟨⟨_, Heap.get?_push_size _ rfl, rfl, rfl⟩, hT.push _⟩, fun c hc => ?_, by simp, cmpOf_gt #[a, b, c] (by simp [ha, hb, hc]), fun v h' tk hP hk => ?_⟩
  · show c < ((s.heap.push _).push _).objs.size
    rw [Heap.size_push, hsz]
    rcases List.mem_cons.mp hc with rfl | hc
    · rw [hsz]; exact Nat.lt_succ_self _
    · rcases List.mem_cons.mp hc with rfl | hc
      · exact Nat.lt_succ_of_lt (Nat.lt_succ_self _)
      · cases hc
  · have hold : ∀ c o, s.heap.get? c = some o → h'.get? c = some o := fun c o e => by
      refine hk c o (fun hm => ?_) (Heap.get?_push_of_some _ (Heap.get?_push_of_some _ e))
      rcases List.mem_cons.mp hm with e1 | hm
      · have := Heap.lt_size e; rw [e1, hsz] at this; exact Nat.lt_irrefl _ (Nat.lt_of_succ_lt this)
      · cases hm
    have := h h' tk hold
    have hv : v = if ltV a b = true then (if ltV b c = true then c else b) else (if ltV a c = true then c else a) := by
      cases h1 : ltV a b <;> cases h2 : ltV b c <;> cases h3 : ltV a c <;> simp [argBest, h1, h2, h3] at hP <;> simp [hP]
    rw [hv]; exact this
theorem min_three_num {Q : Value → Shared → Prop} {a b c : Value} (hh : A.handled = none) (ha : NumV a) (hb : NumV b) (hc : NumV c)
    (h : ∀ h' tk, (∀ c o, s.heap.get? c = some o → h'.get? c = some o) → Q (if ltV b a = true then (if ltV c b = true then c else b) else (if ltV c a = true then c else a)) { s with heap := h', toks := tk }) :
    wpAny (model prog w) A (call (.builtin "min") [a, b, c]) Q E s := by
  have hT : (s.heap.push { cls := .type "tuple", data := .seq #[a, b, c] }).IsTuple s.heap.objs.size #[a, b, c] := ⟨_, Heap.get?_push_size _ rfl, rfl, 0, rfl⟩
  refine call_min_three (wpAny_pyIter_tuple hT ?_)
  have hsz : (s.heap.push { cls := .type "tuple", data := .seq #[a, b, c] }).objs.size = s.heap.objs.size + 1 := Heap.size_push ..
  refine ⟨_, [_, s.heap.objs.size], [_], _, _, _, _, rfl, Walks.tuple (A := A.in1) hh _ s.heap.objs.size (by rw [hsz]; exact Nat.ne_of_lt (Nat.lt_succ_self _)) #[a, b, c],
    ⟨⟨_, Heap.get?_push_size _ rfl, rfl, rfl⟩, hT.push _⟩, fun c hc => ?_, by simp, cmpOf_lt #[a, b, c] (by simp [ha, hb, hc]), fun v h' tk hP hk => ?_⟩
  · show c < ((s.heap.push _).push _).objs.size
    rw [Heap.size_push, hsz]
    rcases List.mem_cons.mp hc with rfl | hc
    · rw [hsz]; exact Nat.lt_succ_self _
    · rcases List.mem_cons.mp hc with rfl | hc
      · exact Nat.lt_succ_of_lt (Nat.lt_succ_self _)
      · cases hc
  · have hold : ∀ c o, s.heap.get? c = some o → h'.get? c = some o := fun c o e => by
      refine hk c o (fun hm => ?_) (Heap.get?_push_of_some _ (Heap.get?_push_of_some _ e))
      rcases List.mem_cons.mp hm with e1 | hm
      · have := Heap.lt_size e; rw [e1, hsz] at this; exact Nat.lt_irrefl _ (Nat.lt_of_succ_lt this)
      · cases hm
    have := h h' tk hold
    have hv : v = if ltV b a = true then (if ltV c b = true then c else b) else (if ltV c a = true then c else a) := by
      cases h1 : ltV b a <;> cases h2 : ltV c b <;> cases h3 : ltV c a <;> simp [argBest, h1, h2, h3] at hP <;> simp [hP]
    rw [hv]; exact this
theorem max_fff {x y z : UInt64} {t u v : Tok} {Q : Value → Shared → Prop} (hh : A.handled = none) (F : Fr h₀ L s.heap m) (N : News h₀ L s.heap news) (ht : t ≠ 0) (hu : u ≠ 0) (hv : v ≠ 0)
    (h : ∀ h' tk v, v ≠ 0 → Fr h₀ L h' m → News h₀ L h' news → Q (.float (maxF x y z) v) { s with heap := h', toks := tk }) :
    wpAny (model prog w) A (call (.builtin "max") [.float x t, .float y u, .float z v]) Q E s := by
  refine max_three_num hh (.float x t) (.float y u) (.float z v) fun h' tk kp => ?_
  have F' := F.grownK kp
  have N' := N.grown kp
  have h2 := fun v hv => h h' tk v hv F' N'
  unfold maxF at h2
  show Q (if (Float64.cmp x y == some .lt) = true then (if (Float64.cmp y z == some .lt) = true then .float z v else .float y u) else (if (Float64.cmp x z == some .lt) = true then .float z v else .float x t)) _
  split
  · split
    · rename_i a b; simp only [if_pos a, if_pos b] at h2; exact h2 _ (by assumption)
    · rename_i a b; simp only [if_pos a, if_neg b] at h2; exact h2 _ (by assumption)
  · split
    · rename_i a b; simp only [if_neg a, if_pos b] at h2; exact h2 _ (by assumption)
    · rename_i a b; simp only [if_neg a, if_neg b] at h2; exact h2 _ (by assumption)
theorem min_fff {x y z : UInt64} {t u v : Tok} {Q : Value → Shared → Prop} (hh : A.handled = none) (F : Fr h₀ L s.heap m) (N : News h₀ L s.heap news)
    (h : ∀ h' tk v, Fr h₀ L h' m → News h₀ L h' news → Q (.float (minF x y z) v) { s with heap := h', toks := tk }) :
    wpAny (model prog w) A (call (.builtin "min") [.float x t, .float y u, .float z v]) Q E s := by
  refine min_three_num hh (.float x t) (.float y u) (.float z v) fun h' tk kp => ?_
  have F' := F.grownK kp
  have N' := N.grown kp
  have h2 := fun v => h h' tk v F' N'
  unfold minF at h2
  show Q (if (Float64.cmp y x == some .lt) = true then (if (Float64.cmp z y == some .lt) = true then .float z v else .float y u) else (if (Float64.cmp z x == some .lt) = true then .float z v else .float x t)) _
  split
  · split
    · rename_i a b; simp only [if_pos a, if_pos b] at h2; exact h2 _
    · rename_i a b; simp only [if_pos a, if_neg b] at h2; exact h2 _
  · split
    · rename_i a b; simp only [if_neg a, if_pos b] at h2; exact h2 _
    · rename_i a b; simp only [if_neg a, if_neg b] at h2; exact h2 _
end
noncomputable abbrev tupO (vs : Array Value) : Obj := { cls := Value.type "tuple", data := Data.seq vs }
noncomputable def hsvF (h : UInt64) : UInt64 × UInt64 × UInt64 :=
  let one : UInt64 := 4607182418800017408
  let x := Float64.mul h 4618441417868443648
  let i := Flt.toInt Float64.truncOf x
  let f := Float64.sub x (Float64.ofInt i)
  let p := Float64.mul one (Float64.sub one one)
  let q := Float64.mul one (Float64.sub one (Float64.mul one f))
  let t := Float64.mul one (Float64.sub one (Float64.mul one (Float64.sub one f)))
  if i.fmod 6 = 0 then (one, t, p) else if i.fmod 6 = 1 then (q, one, p) else if i.fmod 6 = 2 then (p, one, t)
  else if i.fmod 6 = 3 then (p, q, one) else if i.fmod 6 = 4 then (t, p, one) else (one, p, q)
theorem hsvF_0 {h : UInt64} (hc : Int.fmod (Flt.toInt Float64.truncOf (Float64.mul h 4618441417868443648)) 6 = 0) : hsvF h = (4607182418800017408, (Float64.mul 4607182418800017408 (Float64.sub 4607182418800017408 (Float64.mul 4607182418800017408 (Float64.sub 4607182418800017408 (Float64.sub (Float64.mul h 4618441417868443648) (Float64.ofInt (Flt.toInt Float64.truncOf (Float64.mul h 4618441417868443648)))))))), (Float64.mul 4607182418800017408 (Float64.sub 4607182418800017408 4607182418800017408))) := by
  unfold hsvF; simp only [hc]; rfl
theorem hsvF_1 {h : UInt64} (hc : Int.fmod (Flt.toInt Float64.truncOf (Float64.mul h 4618441417868443648)) 6 = 1) : hsvF h = ((Float64.mul 4607182418800017408 (Float64.sub 4607182418800017408 (Float64.mul 4607182418800017408 (Float64.sub (Float64.mul h 4618441417868443648) (Float64.ofInt (Flt.toInt Float64.truncOf (Float64.mul h 4618441417868443648))))))), 4607182418800017408, (Float64.mul 4607182418800017408 (Float64.sub 4607182418800017408 4607182418800017408))) := by
  unfold hsvF; simp only [hc]; rfl
theorem hsvF_2 {h : UInt64} (hc : Int.fmod (Flt.toInt Float64.truncOf (Float64.mul h 4618441417868443648)) 6 = 2) : hsvF h = ((Float64.mul 4607182418800017408 (Float64.sub 4607182418800017408 4607182418800017408)), 4607182418800017408, (Float64.mul 4607182418800017408 (Float64.sub 4607182418800017408 (Float64.mul 4607182418800017408 (Float64.sub 4607182418800017408 (Float64.sub (Float64.mul h 4618441417868443648) (Float64.ofInt (Flt.toInt Float64.truncOf (Float64.mul h 4618441417868443648))))))))) := by
  unfold hsvF; simp only [hc]; rfl
theorem hsvF_3 {h : UInt64} (hc : Int.fmod (Flt.toInt Float64.truncOf (Float64.mul h 4618441417868443648)) 6 = 3) : hsvF h = ((Float64.mul 4607182418800017408 (Float64.sub 4607182418800017408 4607182418800017408)), (Float64.mul 4607182418800017408 (Float64.sub 4607182418800017408 (Float64.mul 4607182418800017408 (Float64.sub (Float64.mul h 4618441417868443648) (Float64.ofInt (Flt.toInt Float64.truncOf (Float64.mul h 4618441417868443648))))))), 4607182418800017408) := by
  unfold hsvF; simp only [hc]; rfl
theorem hsvF_4 {h : UInt64} (hc : Int.fmod (Flt.toInt Float64.truncOf (Float64.mul h 4618441417868443648)) 6 = 4) : hsvF h = ((Float64.mul 4607182418800017408 (Float64.sub 4607182418800017408 (Float64.mul 4607182418800017408 (Float64.sub 4607182418800017408 (Float64.sub (Float64.mul h 4618441417868443648) (Float64.ofInt (Flt.toInt Float64.truncOf (Float64.mul h 4618441417868443648)))))))), (Float64.mul 4607182418800017408 (Float64.sub 4607182418800017408 4607182418800017408)), 4607182418800017408) := by
  unfold hsvF; simp only [hc]; rfl
theorem hsvF_5 {h : UInt64} (hc : Int.fmod (Flt.toInt Float64.truncOf (Float64.mul h 4618441417868443648)) 6 = 5) : hsvF h = (4607182418800017408, (Float64.mul 4607182418800017408 (Float64.sub 4607182418800017408 4607182418800017408)), (Float64.mul 4607182418800017408 (Float64.sub 4607182418800017408 (Float64.mul 4607182418800017408 (Float64.sub (Float64.mul h 4618441417868443648) (Float64.ofInt (Flt.toInt Float64.truncOf (Float64.mul h 4618441417868443648)))))))) := by
  unfold hsvF; simp only [hc]; rfl
noncomputable def rgbF (r g b : UInt64) : UInt64 × UInt64 × UInt64 :=
  let M := maxF r g b
  let mi := minF r g b
  if (Float64.cmp mi M == some Ordering.eq) = true then (0, 0, M)
  else
    let d := Float64.sub M mi
    let rc := Float64.div (Float64.sub M r) d
    let gc := Float64.div (Float64.sub M g) d
    let bc := Float64.div (Float64.sub M b) d
    let h := if (Float64.cmp r M == some Ordering.eq) = true then Float64.sub bc gc
      else if (Float64.cmp g M == some Ordering.eq) = true then Float64.sub (Float64.add 4611686018427387904 rc) bc
      else Float64.sub (Float64.add 4616189618054758400 gc) rc
    ((Float64.divmod (Float64.div h 4618441417868443648) 4607182418800017408).snd, Float64.div d M, M)
noncomputable def rgbOk (r g b : UInt64) : Bool := (Float64.cmp (minF r g b) (maxF r g b) == some Ordering.eq) || (!Float64.isZero (maxF r g b) && !Float64.isZero (Float64.sub (maxF r g b) (minF r g b)))
theorem rgbOk_ne {r g b : UInt64} (h : rgbOk r g b = true) (h2 : (Float64.cmp (minF r g b) (maxF r g b) == some Ordering.eq) = false) : Float64.isZero (maxF r g b) = false ∧ Float64.isZero (Float64.sub (maxF r g b) (minF r g b)) = false := by
  unfold rgbOk at h
  rw [h2] at h
  simpa using h
theorem rgbF_e {r g b : UInt64} (h : (Float64.cmp (minF r g b) (maxF r g b) == some Ordering.eq) = true) : rgbF r g b = (0, 0, maxF r g b) := by
  unfold rgbF; simp only [h, if_true]
theorem rgbF_r {r g b : UInt64} (h : (Float64.cmp (minF r g b) (maxF r g b) == some Ordering.eq) = false) (h1 : ((Float64.cmp r (maxF r g b) == some Ordering.eq) = true)) : rgbF r g b = ((Float64.divmod (Float64.div (Float64.sub (Float64.div (Float64.sub (maxF r g b) b) (Float64.sub (maxF r g b) (minF r g b))) (Float64.div (Float64.sub (maxF r g b) g) (Float64.sub (maxF r g b) (minF r g b)))) 4618441417868443648) 4607182418800017408).snd, Float64.div (Float64.sub (maxF r g b) (minF r g b)) (maxF r g b), (maxF r g b)) := by
  unfold rgbF; simp only [h, h1]; rfl
theorem rgbF_g {r g b : UInt64} (h : (Float64.cmp (minF r g b) (maxF r g b) == some Ordering.eq) = false) (h1 : ((Float64.cmp r (maxF r g b) == some Ordering.eq) = false)) (h2 : ((Float64.cmp g (maxF r g b) == some Ordering.eq) = true)) : rgbF r g b = ((Float64.divmod (Float64.div (Float64.sub (Float64.add 4611686018427387904 (Float64.div (Float64.sub (maxF r g b) r) (Float64.sub (maxF r g b) (minF r g b)))) (Float64.div (Float64.sub (maxF r g b) b) (Float64.sub (maxF r g b) (minF r g b)))) 4618441417868443648) 4607182418800017408).snd, Float64.div (Float64.sub (maxF r g b) (minF r g b)) (maxF r g b), (maxF r g b)) := by
  unfold rgbF; simp only [h, h1, h2]; rfl
theorem rgbF_b {r g b : UInt64} (h : (Float64.cmp (minF r g b) (maxF r g b) == some Ordering.eq) = false) (h1 : ((Float64.cmp r (maxF r g b) == some Ordering.eq) = false)) (h2 : ((Float64.cmp g (maxF r g b) == some Ordering.eq) = false)) : rgbF r g b = ((Float64.divmod (Float64.div (Float64.sub (Float64.add 4616189618054758400 (Float64.div (Float64.sub (maxF r g b) g) (Float64.sub (maxF r g b) (minF r g b)))) (Float64.div (Float64.sub (maxF r g b) r) (Float64.sub (maxF r g b) (minF r g b)))) 4618441417868443648) 4607182418800017408).snd, Float64.div (Float64.sub (maxF r g b) (minF r g b)) (maxF r g b), (maxF r g b)) := by
  unfold rgbF; simp only [h, h1, h2]; rfl
theorem one_not_zero : (Float64.cmp 4607182418800017408 0 == some Ordering.eq) = false := by decide +kernel
end Mine
end S_C8
section S_H1
open PySem PySem.W PyProof.Rows
namespace Mine
example (w : World) : (fun (_ : Frag) (_ : OpenLaw) => True) (Mine.hd.heap_39 w.params) PySem.Challenge.rw_tr0035_01 := by k_fill; trivial
example : True := by w_top off; trivial
set_option linter.unusedVariables false
set_option maxRecDepth 100000
set_option maxHeartbeats 2000000
section
variable {w : World} {mean : ExcName → Option Value} {mg mb : Str → Option Value} {dp un : Nat} {gd : Option (List Code)} {cn : Str} {cs : Scope} {a : Addr} {ccd : Value} {cl : List (Str × Addr)} {outer : List Env} {A₀ : Around} {base h₀ : Heap} {L : Addr} {m : Str → Option Value} {news : List (Addr × Obj)} {s : Shared} {Q E : Value → Shared → Prop}
section
theorem lhsv {h : UInt64} {t1 t2 t3 : Tok} {v1 : UInt64} (B : Below A₀ base outer h₀) (F : Fr h₀ L s.heap m) (X : (Mine.hd.heap_39 w.params).In h₀) (N : News h₀ L s.heap news) (T : Top VW (looseW VW []) mean mg mb h₀) (hk : cs.kind = .function) (hd : dp + 30 < recursionLimit) (hu : un + 280 < cLine)
    (hv1 : v1 = 0x3FF0000000000000) (hfin : Float64.isFinite (Float64.mul h 4618441417868443648) = true) (hsm : (Flt.toInt Float64.truncOf (Float64.mul h 4618441417868443648)).natAbs < 2 ^ 1024 - 2 ^ 970)
    (ret : ∀ D h' tk' t5 t6 t7, Fr h₀ L h' m → News h₀ L h' ((D, tupO #[.float (hsvF h).1 t5, .float (hsvF h).2.1 t6, .float (hsvF h).2.2 t7]) :: news) → (∀ p ∈ news, p.1 < D) → Q (.ref D) { s with heap := h', toks := tk' }) :
    wpAny (model PG w) (ktrTop dp un gd cn cs L a ccd cl outer) (call (.ref 28) [.float h t1, .float v1 t2, .float v1 t3]) Q E s := by
  subst hv1
  refine wpAny_call ?_
  k_dflt ktr_enter
  k_steps
  · (rename (_ = true) => hbad)
    first
      | (rw [one_not_zero] at hbad; exact absurd hbad Bool.false_ne_true)
      | (exfalso; revert hbad; rw [one_not_zero]; exact Bool.false_ne_true)
  · (rename (Int.fmod _ 6 = _) => hc); (rename News _ _ _ _ => N9); (rename (∀ p, p ∈ news → p.1 < _) => l1)
    exact ret _ _ _ _ _ _ (by k_asm) (by rw [hsvF_0 hc]; exact N9) l1
  · (rename (Int.fmod _ 6 = _) => hc); (rename News _ _ _ _ => N9); (rename (∀ p, p ∈ news → p.1 < _) => l1)
    exact ret _ _ _ _ _ _ (by k_asm) (by rw [hsvF_1 hc]; exact N9) l1
  · (rename (Int.fmod _ 6 = _) => hc); (rename News _ _ _ _ => N9); (rename (∀ p, p ∈ news → p.1 < _) => l1)
    exact ret _ _ _ _ _ _ (by k_asm) (by rw [hsvF_2 hc]; exact N9) l1
  · (rename (Int.fmod _ 6 = _) => hc); (rename News _ _ _ _ => N9); (rename (∀ p, p ∈ news → p.1 < _) => l1)
    exact ret _ _ _ _ _ _ (by k_asm) (by rw [hsvF_3 hc]; exact N9) l1
  · (rename (Int.fmod _ 6 = _) => hc); (rename News _ _ _ _ => N9); (rename (∀ p, p ∈ news → p.1 < _) => l1)
    exact ret _ _ _ _ _ _ (by k_asm) (by rw [hsvF_4 hc]; exact N9) l1
  · (rename (Int.fmod _ 6 = _) => hc); (rename News _ _ _ _ => N9); (rename (∀ p, p ∈ news → p.1 < _) => l1)
    exact ret _ _ _ _ _ _ (by k_asm) (by rw [hsvF_5 hc]; exact N9) l1
  · have h0 := fmod_lo (Flt.toInt Float64.truncOf (Float64.mul h 4618441417868443648)) (n := 6) (by decide)
    have h6 := fmod_hi (Flt.toInt Float64.truncOf (Float64.mul h 4618441417868443648)) (n := 6) (by decide)
    exfalso
    omega
end
end
end Mine
end S_H1
section S_H2
open PySem PySem.W PyProof.Rows
namespace Mine
example (w : World) : (fun (_ : Frag) (_ : OpenLaw) => True) (Mine.hd.heap_39 w.params) PySem.Challenge.rw_tr0035_01 := by k_fill; trivial
example : True := by w_top off; trivial
set_option linter.unusedVariables false
set_option maxRecDepth 100000
set_option maxHeartbeats 2000000
section
variable {w : World} {mean : ExcName → Option Value} {mg mb : Str → Option Value} {dp un : Nat} {gd : Option (List Code)} {cn : Str} {cs : Scope} {a : Addr} {ccd : Value} {cl : List (Str × Addr)} {outer : List Env} {A₀ : Around} {base h₀ : Heap} {L : Addr} {m : Str → Option Value} {news : List (Addr × Obj)} {s : Shared} {Q E : Value → Shared → Prop}
section
local macro_rules | `(tactic| walk_at "execs cons") => `(tactic| (k_here; refine' tok_gen ?hn ?_; (case hn => (fail_if_success with_reducible assumption); first | exact Nat.succ_pos _ | exact Nat.le_add_left 1 _ | omega); intro tk htk))
local macro_rules | `(tactic| walk_at "call builtin:max") => `(tactic| (k_here; k_dflt (refine max_fff rfl (by k_asm) (by k_asm) (by assumption) (by assumption) (by assumption) ?_; intro h9 tk9 v9 hv9 F9 N9; (try dsimp only))))
local macro_rules | `(tactic| walk_at "call builtin:min") => `(tactic| (k_here; k_dflt (refine min_fff rfl (by k_asm) (by k_asm) ?_; intro h9 tk9 v9 F9 N9; (try dsimp only))))
theorem lrgb {r g b : UInt64} {t1 t2 t3 : Tok} (B : Below A₀ base outer h₀) (F : Fr h₀ L s.heap m) (X : (Mine.hd.heap_39 w.params).In h₀) (N : News h₀ L s.heap news) (T : Top VW (looseW VW []) mean mg mb h₀) (hk : cs.kind = .function) (hd : dp + 30 < recursionLimit) (hu : un + 280 < cLine)
    (ht1 : t1 ≠ 0) (ht2 : t2 ≠ 0) (ht3 : t3 ≠ 0) (hok : rgbOk r g b = true)
    (ret : ∀ D h' tk' t5 t6 t7, Fr h₀ L h' m → News h₀ L h' ((D, tupO #[.float (rgbF r g b).1 t5, .float (rgbF r g b).2.1 t6, .float (rgbF r g b).2.2 t7]) :: news) → (∀ p ∈ news, p.1 < D) → t5 ≠ 0 → t6 ≠ 0 → t7 ≠ 0 → Q (.ref D) { s with heap := h', toks := tk' }) :
    wpAny (model PG w) (ktrTop dp un gd cn cs L a ccd cl outer) (call (.ref 21) [.float r t1, .float g t2, .float b t3]) Q E s := by
  refine wpAny_call ?_
  k_dflt ktr_enter
  k_steps
  · (rename ((Float64.cmp (minF r g b) (maxF r g b) == _) = true) => c1); (rename News _ _ _ _ => N9); (rename (∀ p, p ∈ news → p.1 < _) => l1)
    exact ret _ _ _ _ _ _ (by k_asm) (by rw [rgbF_e c1]; exact N9) l1 (by first | assumption | exact Nat.succ_ne_zero _ | (show @Ne Nat _ 0; omega)) (by first | assumption | exact Nat.succ_ne_zero _ | (show @Ne Nat _ 0; omega)) (by first | assumption | exact Nat.succ_ne_zero _ | (show @Ne Nat _ 0; omega))
  · (rename ((Float64.cmp (minF r g b) (maxF r g b) == _) = false) => c1); (rename (Float64.isZero _ = true) => hz)
    exact absurd hz (by rw [(rgbOk_ne hok c1).1]; exact Bool.false_ne_true)
  · (rename ((Float64.cmp (minF r g b) (maxF r g b) == _) = false) => c1); (rename (Float64.isZero _ = true) => hz)
    exact absurd hz (by rw [(rgbOk_ne hok c1).2]; exact Bool.false_ne_true)
  · (rename ((Float64.cmp (minF r g b) (maxF r g b) == _) = false) => c1); (rename ((Float64.cmp r _ == _) = true) => c2); (rename News _ _ _ _ => N9); (rename (∀ p, p ∈ news → p.1 < _) => l1)
    exact ret _ _ _ _ _ _ (by k_asm) (by rw [rgbF_r c1 c2]; exact N9) l1 (by first | assumption | exact Nat.succ_ne_zero _ | (show @Ne Nat _ 0; omega)) (by first | assumption | exact Nat.succ_ne_zero _ | (show @Ne Nat _ 0; omega)) (by first | assumption | exact Nat.succ_ne_zero _ | (show @Ne Nat _ 0; omega))
  · (rename ((Float64.cmp (minF r g b) (maxF r g b) == _) = false) => c1); (rename ((Float64.cmp r _ == _) = false) => c2); (rename ((Float64.cmp g _ == _) = true) => c3); (rename News _ _ _ _ => N9); (rename (∀ p, p ∈ news → p.1 < _) => l1)
    exact ret _ _ _ _ _ _ (by k_asm) (by rw [rgbF_g c1 c2 c3]; exact N9) l1 (by first | assumption | exact Nat.succ_ne_zero _ | (show @Ne Nat _ 0; omega)) (by first | assumption | exact Nat.succ_ne_zero _ | (show @Ne Nat _ 0; omega)) (by first | assumption | exact Nat.succ_ne_zero _ | (show @Ne Nat _ 0; omega))
  · (rename ((Float64.cmp (minF r g b) (maxF r g b) == _) = false) => c1); (rename ((Float64.cmp r _ == _) = false) => c2); (rename ((Float64.cmp g _ == _) = false) => c3); (rename News _ _ _ _ => N9); (rename (∀ p, p ∈ news → p.1 < _) => l1)
    exact ret _ _ _ _ _ _ (by k_asm) (by rw [rgbF_b c1 c2 c3]; exact N9) l1 (by first | assumption | exact Nat.succ_ne_zero _ | (show @Ne Nat _ 0; omega)) (by first | assumption | exact Nat.succ_ne_zero _ | (show @Ne Nat _ 0; omega)) (by first | assumption | exact Nat.succ_ne_zero _ | (show @Ne Nat _ 0; omega))
end
end
end Mine
end S_H2
section S_C9
open PySem PySem.W PyProof.Rows
set_option exponentiation.threshold 2000
namespace Mine
noncomputable def ageH (a : Int) : UInt64 := Float64.ofFrac (decide (a < 0) != decide ((4 : Int) < 0)) a.natAbs (Int.natAbs 4)
theorem age_all : ∀ n : Nat, n < 11 → Float64.isInf (ageH (n : Int)) = false ∧ Float64.isFinite (Float64.mul (ageH (n : Int)) 4618441417868443648) = true ∧ (Flt.toInt Float64.truncOf (Float64.mul (ageH (n : Int)) 4618441417868443648)).natAbs < 2 ^ 1024 - 2 ^ 970 := by decide +kernel
theorem age_ok {a : Int} (h0 : 0 ≤ a) (h1 : a ≤ 10) : Float64.isInf (ageH a) = false ∧ Float64.isFinite (Float64.mul (ageH a) 4618441417868443648) = true ∧ (Flt.toInt Float64.truncOf (Float64.mul (ageH a) 4618441417868443648)).natAbs < 2 ^ 1024 - 2 ^ 970 := by
  obtain ⟨n, rfl⟩ := Int.eq_ofNat_of_zero_le h0
  exact age_all n (by omega)
noncomputable def sumT (ag : List Int) : Nat → UInt64 × UInt64 × UInt64
  | 0 => (0, 0, 0)
  | i + 1 =>
    let c := hsvF (ageH (ag.getD i 0))
    (Float64.add (sumT ag i).1 c.1, Float64.add (sumT ag i).2.1 c.2.1, Float64.add (sumT ag i).2.2 c.2.2)
noncomputable def part (x : UInt64) : UInt64 := Float64.div x (Float64.ofInt 32)
noncomputable def mixAt (ag : List Int) (i : Nat) : UInt64 × UInt64 × UInt64 := rgbF (part (sumT ag i).1) (part (sumT ag i).2.1) (part (sumT ag i).2.2)
noncomputable def mixOk (ag : List Int) (i : Nat) : Bool := rgbOk (part (sumT ag i).1) (part (sumT ag i).2.1) (part (sumT ag i).2.2)
noncomputable def mixT (ag ns : List Int) : Nat → List (UInt64 × UInt64 × UInt64)
  | 0 => []
  | i + 1 => if (i : Int) + 1 ∈ ns then mixT ag ns i ++ [mixAt ag (i + 1)] else mixT ag ns i
theorem mixT_len (ag ns : List Int) : ∀ i, (mixT ag ns i).length ≤ i
  | 0 => Nat.le_refl _
  | i + 1 => by
    have := mixT_len ag ns i
    unfold mixT
    split
    · simp only [List.length_append, List.length_cons, List.length_nil]; omega
    · omega
inductive Mixed : List Value → List (Addr × Obj) → List (UInt64 × UInt64 × UInt64) → Prop
  | nil : Mixed [] [] []
  | snoc {vs : List Value} {tl : List (Addr × Obj)} {mx : List (UInt64 × UInt64 × UInt64)} (T : Addr) (t5 t6 t7 : Tok) (c : UInt64 × UInt64 × UInt64) (h5 : t5 ≠ 0) (h6 : t6 ≠ 0) (h7 : t7 ≠ 0) : Mixed vs tl mx → Mixed (vs ++ [Value.ref T]) ((T, tupO #[.float c.1 t5, .float c.2.1 t6, .float c.2.2 t7]) :: tl) (mx ++ [c])
theorem Mixed.len {vs : List Value} {tl : List (Addr × Obj)} {mx : List (UInt64 × UInt64 × UInt64)} (h : Mixed vs tl mx) : vs.length = mx.length := by
  induction h with
  | nil => rfl
  | snoc => simp only [List.length_append, List.length_cons, List.length_nil]; omega
theorem Mixed.cls {vs : List Value} {tl : List (Addr × Obj)} {mx : List (UInt64 × UInt64 × UInt64)} (h : Mixed vs tl mx) : ∀ p ∈ tl, p.2.cls = .type "tuple" := by
  induction h with
  | nil => intro p hp; exact nomatch hp
  | snoc T t5 t6 t7 c _ _ _ _ ih =>
    intro p hp
    rcases List.mem_cons.mp hp with rfl | hp
    · rfl
    · exact ih p hp
theorem Mixed.at {vs : List Value} {tl : List (Addr × Obj)} {mx : List (UInt64 × UInt64 × UInt64)} (h : Mixed vs tl mx) : ∀ (i : Nat) (c : UInt64 × UInt64 × UInt64), mx[i]? = some c → ∃ T t5 t6 t7, vs[i]? = some (Value.ref T) ∧ (T, tupO #[.float c.1 t5, .float c.2.1 t6, .float c.2.2 t7]) ∈ tl ∧ t5 ≠ 0 ∧ t6 ≠ 0 ∧ t7 ≠ 0 := by
  induction h with
  | nil => intro i c h; simp at h
  | @snoc vs tl mx T t5 t6 t7 c g5 g6 g7 hm ih =>
    intro i c' hi
    have hl := hm.len
    by_cases hlt : i < mx.length
    · rw [List.getElem?_append_left hlt] at hi
      obtain ⟨T', a, b, d, h1, h2, h3⟩ := ih i c' hi
      exact ⟨T', a, b, d, by rw [List.getElem?_append_left (by omega)]; exact h1, .tail _ h2, h3⟩
    · rw [List.getElem?_append_right (by omega)] at hi
      have h0 : i - mx.length = 0 := by
        rcases Nat.eq_zero_or_pos (i - mx.length) with h | h
        · exact h
        · rw [List.getElem?_eq_none (Nat.succ_le_of_lt h)] at hi; cases hi
      rw [h0] at hi
      have e : c = c' := by simpa using hi
      subst e
      refine ⟨T, t5, t6, t7, ?_, .head _, g5, g6, g7⟩
      rw [List.getElem?_append_right (by omega), show i - vs.length = 0 by omega]
      rfl
theorem off_cls {h₀ h : Heap} {L : Addr} {l : List (Addr × Obj)} (N : News h₀ L h l) {p q : Addr × Obj} (hp : p ∈ l) (hq : q ∈ l) (hc : p.2.cls ≠ q.2.cls) : p.1 ≠ q.1 := by
  intro e
  have h1 := (N p hp).1
  have h2 := (N q hq).1
  rw [e, h2] at h1
  exact hc (congrArg Obj.cls (Option.some.inj h1)).symm
theorem type_ne {a b : String} (h : a ≠ b) : Value.type a ≠ Value.type b := fun e => h (by injection e)
theorem sumT_step {ag : List Int} {i : Nat} {age : Int} (h : ag.getD i 0 = age) : sumT ag (i + 1) = (Float64.add (sumT ag i).1 (hsvF (ageH age)).1, Float64.add (sumT ag i).2.1 (hsvF (ageH age)).2.1, Float64.add (sumT ag i).2.2 (hsvF (ageH age)).2.2) := by
  subst h; rfl
theorem mixAt_step {ag : List Int} {i : Nat} {age : Int} (h : ag.getD i 0 = age) : mixAt ag (i + 1) = rgbF (part (Float64.add (sumT ag i).1 (hsvF (ageH age)).1)) (part (Float64.add (sumT ag i).2.1 (hsvF (ageH age)).2.1)) (part (Float64.add (sumT ag i).2.2 (hsvF (ageH age)).2.2)) := by
  subst h; rfl
theorem mixT_yes {ag ns : List Int} {i : Nat} (h : (i : Int) + 1 ∈ ns) : mixT ag ns (i + 1) = mixT ag ns i ++ [mixAt ag (i + 1)] := by rw [show mixT ag ns (i + 1) = if (i : Int) + 1 ∈ ns then mixT ag ns i ++ [mixAt ag (i + 1)] else mixT ag ns i from rfl, if_pos h]
theorem mixT_no {ag ns : List Int} {i : Nat} (h : ¬ (i : Int) + 1 ∈ ns) : mixT ag ns (i + 1) = mixT ag ns i := by rw [show mixT ag ns (i + 1) = if (i : Int) + 1 ∈ ns then mixT ag ns i ++ [mixAt ag (i + 1)] else mixT ag ns i from rfl, if_neg h]
noncomputable def leftL (j tn f s : Int) : List Int :=
  (if Int.fmod j 3 ≠ 0 then [Int.fmod (Int.fdiv (j + 1) 3 + s + tn) 4] else []) ++ (if Int.fmod j 3 ≠ 1 then [Int.fmod (Int.fdiv j 3 + f + tn) 4] else [])
noncomputable def frac64 (x : Int) : UInt64 := Float64.ofFrac (decide (x < 0) != decide ((64 : Int) < 0)) x.natAbs (Int.natAbs 64)
section
open PySem.Calls PyProof.V PySem.Spec
variable {prog : Program} {w : World} {A : Around} {E : Value → Shared → Prop} {s : Shared} {h₀ : Heap} {L : Addr} {m : Str → Option Value} {news : List (Addr × Obj)}
theorem itemAt {value slice : PySem.Expr} {D : Addr} {vs : Array Value} {ep : Nat} {k : Int} {u : Tok} {x : Value} {Q : Value → Shared → Prop} (N : News h₀ L s.heap news) (hm : (D, W.listOf vs ep) ∈ news)
    (h0 : 0 ≤ k) (hfit : k < 2 ^ 63) (hx : vs[k.toNat]? = some x) (h : Q x s)
    (hs : subscripted slice false (.ref D) (.int k u) = operate [.ref D, .int k u] (getItem (.ref D) (.int k u)) := by with_unfolding_all rfl) :
    wpAny (model prog w) A (subscriptTail value slice (.ref D) (.int k u)) Q E s := by
  have hL : s.heap.IsList D vs := ⟨_, (N _ hm).1, rfl, ep, rfl⟩
  exact tail_any hL.typeIs slot_list_getitem.lookup (wpAny_getItem_list hL h0 hfit hx h) hs
theorem itemAtI {value slice : PySem.Expr} {D : Addr} {vs : Array Value} {ep : Nat} {k : Int} {u : Tok} {a9 : Int} {t9 : Tok} {Q : Value → Shared → Prop} (N : News h₀ L s.heap news) (hm : (D, W.listOf vs ep) ∈ news)
    (h0 : 0 ≤ k) (hfit : k < 2 ^ 63) (hx : vs[k.toNat]? = some (Value.int a9 t9)) (h : Q (.int a9 t9) s)
    (hs : subscripted slice false (.ref D) (.int k u) = operate [.ref D, .int k u] (getItem (.ref D) (.int k u)) := by with_unfolding_all rfl) :
    wpAny (model prog w) A (subscriptTail value slice (.ref D) (.int k u)) Q E s := by
  have hL : s.heap.IsList D vs := ⟨_, (N _ hm).1, rfl, ep, rfl⟩
  exact tail_any hL.typeIs slot_list_getitem.lookup (wpAny_getItem_list hL h0 hfit hx h) hs
end
theorem ite_yes {c p r : Prop} [Decidable c] (h : c) (hp : p) : if c then p else r := by rw [if_pos h]; exact hp
theorem ite_no {b : Bool} {p r : Prop} (h : b = false) (hr : r) : if b = true then p else r := by rw [h]; exact hr
theorem isSame_float {M : Model} {A : Around} {E : Value → Shared → Prop} {s : Shared} {y z : UInt64} {u v : Tok} {Q : Bool → Shared → Prop}
    (h1 : u ≠ 0) (h2 : v ≠ 0) (hb : NoneBooked s.heap) (hq : ∀ b, Q b s) : wpAny M A (isSame (.float y u) (.float z v)) Q E s := by
  have h0 : (u == 0 || v == 0) = false := by simp [h1, h2]
  show wpAny M A (isSame.created (y == z && !Float64.isNaN y) u v) Q E s
  unfold isSame.created
  refine wpAny_ite ?_
  split
  · rename_i h; rw [h0] at h; exact absurd h Bool.false_ne_true
  refine wpAny_ite ?_
  split
  · exact wpAny_pure (hq _)
  refine wpAny_ite ?_
  split
  · exact wpAny_pure (hq _)
  refine wpAny_bind (wpAny_sharingNotTold_none hb ?_)
  first | rw [if_neg Bool.false_ne_true] | simp only [Bool.false_eq_true, if_false]
  refine wpAny_bind (wpAny_sharingNotTold_none hb ?_)
  first | rw [if_neg Bool.false_ne_true] | simp only [Bool.false_eq_true, if_false]
  exact wpAny_bind (wpAny_rule (wpAny_bind (wpAny_askSetting (wpAny_pure (hq _)))))
theorem feq_at {A : Around} {s : Shared} {x y : UInt64} {t u : Tok} (h1 : t ≠ 0) (h2 : u ≠ 0) (hb : NoneBooked s.heap) (h : (Float64.cmp x y == some Ordering.eq) = true) : SeqAt.EqAt A s (.float x t) (.float y u) true := fun prog w E Q hq => by
  unfold eqBool
  refine wpAny_holding ?_
  refine wpAny_ite_split (fun _ => wpAny_bind (wpAny_rule (wpAny_pure hq))) (fun _ => ?_)
  refine wpAny_bind (isSame_float h1 h2 hb fun b => ?_)
  cases b with
  | true => exact wpAny_pure hq
  | false =>
    refine wpAny_bind (AutoFloatOps.eq_0 (Q := fun v s' => wpAny (model prog w) A (truthOfDropped v) Q E s') ?_)
    show wpAny (model prog w) A (truthOfDropped (.bool (Float64.cmp x y == some Ordering.eq))) Q E s
    rw [h]
    exact wpAny_truthy_bool hq
section
variable {prog : Program} {w : World} {A : Around} {E : Value → Shared → Prop} {s : Shared} {h₀ : Heap} {L : Addr} {m : Str → Option Value} {news : List (Addr × Obj)}
theorem tup3_eq {a b : Addr} {x y z x' y' z' : UInt64} {t u v t' u' v' : Tok} {Q : Value → Shared → Prop} (N : News h₀ L s.heap news) (ha : (a, tupO #[.float x t, .float y u, .float z v]) ∈ news) (hb : (b, tupO #[.float x' t', .float y' u', .float z' v']) ∈ news) (hu : A.units < cLine) (hnb : NoneBooked s.heap)
    (q1 : t ≠ 0) (q2 : u ≠ 0) (q3 : v ≠ 0) (q4 : t' ≠ 0) (q5 : u' ≠ 0) (q6 : v' ≠ 0)
    (h1 : (Float64.cmp x x' == some Ordering.eq) = true) (h2 : (Float64.cmp y y' == some Ordering.eq) = true) (h3 : (Float64.cmp z z' == some Ordering.eq) = true) (h : Q (.bool true) s) :
    wpAny (model prog w) A (compareOp .Eq (.ref a) (.ref b)) Q E s := by
  have hA : s.heap.IsTuple a #[.float x t, .float y u, .float z v] := ⟨_, (N _ ha).1, rfl, _, rfl⟩
  have hB : s.heap.IsTuple b #[.float x' t', .float y' u', .float z' v'] := ⟨_, (N _ hb).1, rfl, _, rfl⟩
  refine SeqAt.eq_tupleAt (e := fun _ => true) hA hB hu (fun j q1 q2 => ?_) h
  match j, q1, q2 with
  | 0, _, _ => exact feq_at (by assumption) (by assumption) hnb h1
  | 1, _, _ => exact feq_at (by assumption) (by assumption) hnb h2
  | 2, _, _ => exact feq_at (by assumption) (by assumption) hnb h3
  | j + 3, q, _ => exact absurd q (by simp)
end
theorem noneBooked (w : World) {h : Heap} (X : (Mine.hd.heap_39 w.params).In h) : NoneBooked h := by
  have e1 : nsOkIn (Mine.hd.heap_39 w.params) cStatics = true := by first | kernel_rfl! | k_is | with_unfolding_all rfl
  have e2 : nsIn (Mine.hd.heap_39 w.params) cStatics sharingNotToldKey = some none := by first | kernel_rfl! | k_is | with_unfolding_all rfl
  exact ⟨_, .of_isNs (isNs_of_in X e1), nsMap_none_of_in X e1 e2⟩
end Mine
end S_C9
section S_X1

open PySem PySem.W PyProof.Rows
namespace Mine
example (w : World) : (fun (_ : Frag) (_ : OpenLaw) => True) (Mine.hd.heap_39 w.params) PySem.Challenge.rw_tr0035_01 := by k_fill; trivial
example : True := by w_top off; trivial
set_option linter.unusedVariables false
set_option maxRecDepth 100000
set_option maxHeartbeats 4000000
section
variable {w : World} {mean : ExcName → Option Value} {mg mb : Str → Option Value} {dp un : Nat} {gd : Option (List Code)} {cn : Str} {cs : Scope} {a : Addr} {ccd : Value} {cl : List (Str × Addr)} {outer : List Env} {A₀ : Around} {base h₀ : Heap} {L : Addr} {m : Str → Option Value} {news : List (Addr × Obj)} {s : Shared} {Q E : Value → Shared → Prop}
section
local macro_rules | `(tactic| walk_at "call ref") => `(tactic| (k_here; (try dsimp only); refine hold_of ?_))
local macro_rules | `(tactic| walk_at "call builtin:list.append") => `(tactic| (k_here; refine hold_of ?_))
theorem lmixes {ag ns : List Int} {La Ls : Addr} {vsA vsS : Array Value} {epA epS : Nat} {led : List (Addr × Obj)} (B : Below A₀ base outer h₀) (F : Fr h₀ L s.heap m) (X : (Mine.hd.heap_39 w.params).In h₀) (N : News h₀ L s.heap ((La, W.listOf vsA epA) :: (Ls, W.listOf vsS epS) :: led)) (T : Top VW (looseW VW []) mean mg mb h₀) (hk : cs.kind = .function) (hd : dp + 60 < recursionLimit) (hu : un + 800 < cLine)
    (hA : IntsAre vsA.toList ag) (hS : IntsAre vsS.toList ns) (hlen : ag.length ≤ 1000) (hag : ∀ (i : Nat) (a : Int), ag[i]? = some a → 0 ≤ a ∧ a ≤ 10) (hok : ∀ i : Nat, i < ag.length → (i : Int) + 1 ∈ ns → mixOk ag (i + 1) = true)
    (ret : ∀ D vs ep tl h' tk', Fr h₀ L h' m → News h₀ L h' ((D, W.listOf vs ep) :: (La, W.listOf vsA epA) :: (Ls, W.listOf vsS epS) :: (tl ++ led)) → Mixed vs.toList tl (mixT ag ns ag.length) → Q (.ref D) { s with heap := h', toks := tk' }) :
    wpAny (model PG w) (ktrTop dp un gd cn cs L a ccd cl outer) (call (.ref 124) [.ref La, .ref Ls]) Q E s := by
  refine wpAny_call ?_
  k_dflt ktr_enter
  k_steps
  refine of_hold ?_
  (rename Fr _ _ _ _ => lF'); (rename News _ _ _ _ => lN')
  (rename (_ < _ ∧ _ < _ ∧ AllLt _ _) => l1)
  obtain ⟨D1, eD⟩ := name_news lN'
  subst eD
  refine iter_enum3 (ns := ag) (y := Str.ofString "red") (y' := Str.ofString "green") (y'' := Str.ofString "blue") [Str.ofString "k", Str.ofString "age", Str.ofString "r", Str.ofString "g", Str.ofString "b"] (fun i v v' v'' nx => ∃ t t' t'' vs ep tl, v = .float (sumT ag i).1 t ∧ v' = .float (sumT ag i).2.1 t' ∧ v'' = .float (sumT ag i).2.2 t'' ∧ nx = (D1, W.listOf vs ep) :: (La, W.listOf vsA epA) :: (Ls, W.listOf vsS epS) :: (tl ++ led) ∧ Mixed vs.toList tl (mixT ag ns i)) (by rfl) (.tail _ (.head _)) (by assumption) lF' lN' rfl rfl rfl ⟨_, _, _, _, _, [], rfl, rfl, rfl, rfl, .nil⟩ ?_ ?_
  · rintro I hI i age t t' T u _ _ _ nx h tk oe oi hx hl' ⟨t5, t6, t7, vs, ep, tl, rfl, rfl, rfl, rfl, hw⟩ hT hoe hoi F' N'
    clear lF' lN'
    have hage := hag i age hx
    have hfin := age_ok hage.1 hage.2
    have hI1 : D1 < I := hI _ (.head _)
    have hvl := hw.len
    have hml := mixT_len ag ns i
    have hil := (List.getElem?_eq_some_iff.mp hx).1
    rw [Array.length_toList] at hvl
    have hgd : ag.getD i 0 = age := by simp [List.getD, hx]
    k_steps
    · refine of_hold ?_
      refine lhsv (by k_asm) (by k_asm) (by k_asm) (by k_asm) (by k_asm) (by first | exact rfl | assumption) (by ktr_room) (by ktr_units) rfl hfin.2.1 hfin.2.2 ?_
      intro D4 h4 tk4 t8 t9 t10 F4 N4 l4
      (try dsimp only)
      k_steps
      · refine of_hold ?_
        (rename (List.any ns _ = true) => hany); (rename News _ _ _ _ => N5)
        have hin : (i : Int) + 1 ∈ ns := by simpa using hany
        have hr := hok i (List.getElem?_eq_some_iff.mp hx).1 hin
        simp only [mixOk, sumT, hgd] at hr
        refine lrgb (by k_asm) (by k_asm) (by k_asm) (by k_asm) (by k_asm) (by first | exact rfl | assumption) (by ktr_room) (by ktr_units) (Nat.succ_ne_zero _) (Nat.succ_ne_zero _) (Nat.succ_ne_zero _) hr ?_
        intro D7 h7 tk7 u5 u6 u7 F7 N7 l7 g5 g6 g7
        (try dsimp only)
        clear N5
        k_steps
        refine of_hold ?_
        (rename News _ _ _ _ => N8)
        have N2 := news_sub N8 (news' := (D1, W.listOf vs ep) :: (D7, _) :: (I + 1, oe) :: (I, oi) :: (La, W.listOf vsA epA) :: (Ls, W.listOf vsS epS) :: (tl ++ led)) (List.forall_mem_cons.mpr ⟨by k_mem, List.forall_mem_cons.mpr ⟨List.Mem.head _, List.forall_mem_cons.mpr ⟨by k_mem, List.forall_mem_cons.mpr ⟨by k_mem, List.forall_mem_cons.mpr ⟨by k_mem, List.forall_mem_cons.mpr ⟨by k_mem, fun p hp => by repeat (first | exact hp | refine List.Mem.tail _ ?_)⟩⟩⟩⟩⟩⟩)
        have hD7 : D1 < D7 := l7 (D1, W.listOf vs ep) (by k_mem)
        have hI7 : I < D7 := l7 (I, oi) (by k_mem)
        have hJ7 : I + 1 < D7 := l7 (I + 1, oe) (by k_mem)
        have htl : ∀ p ∈ tl, p.1 ≠ D1 := fun p hp => off_cls N2 (p := p) (q := (D1, W.listOf vs ep)) (.tail _ (.tail _ (.tail _ (.tail _ (.tail _ (.tail _ (List.mem_append.mpr (.inl hp)))))))) (.head _) (by rw [hw.cls p hp]; exact type_ne (by decide))
        have htI : ∀ p ∈ tl, p.1 ≠ I := fun p hp => off_cls N2 (p := p) (q := (I, oi)) (.tail _ (.tail _ (.tail _ (.tail _ (.tail _ (.tail _ (List.mem_append.mpr (.inl hp)))))))) (.tail _ (.tail _ (.tail _ (.head _)))) (by rw [hw.cls p hp, hoi]; exact type_ne (by decide))
        have htJ : ∀ p ∈ tl, p.1 ≠ I + 1 := fun p hp => off_cls N2 (p := p) (q := (I + 1, oe)) (.tail _ (.tail _ (.tail _ (.tail _ (.tail _ (.tail _ (List.mem_append.mpr (.inl hp)))))))) (.tail _ (.tail _ (.head _))) (by rw [hw.cls p hp, hoe]; exact type_ne (by decide))
        have hne : ∀ o : Obj, ∀ p ∈ (D7, o) :: (I + 1, oe) :: (I, oi) :: (La, W.listOf vsA epA) :: (Ls, W.listOf vsS epS) :: (tl ++ led), p.1 ≠ D1 := fun o => List.forall_mem_cons.mpr ⟨Nat.ne_of_gt hD7, List.forall_mem_cons.mpr ⟨Nat.ne_of_gt (Nat.lt_succ_of_lt hI1), List.forall_mem_cons.mpr ⟨Nat.ne_of_gt hI1, List.forall_mem_cons.mpr ⟨Nat.ne_of_lt l1.1, List.forall_mem_cons.mpr ⟨Nat.ne_of_lt l1.2.1, fun p hp => (List.mem_append.mp hp).elim (htl p) (fun h => Nat.ne_of_lt (ktn_ltOf l1.2.2 p h))⟩⟩⟩⟩⟩
        refine appLed (by k_asm) N2 (UpdF.head (hne _)) (by omega) ?_
        intro h8 F8 N9
        clear N2 N8
        k_steps
        refine of_hold ?_
        (rename News _ _ _ _ => N10)
        refine endW (by assumption) N10 ((D1, W.listOf (vs.push (.ref D7)) (ep + 1)) :: (La, W.listOf vsA epA) :: (Ls, W.listOf vsS epS) :: (((D7, _) :: tl) ++ led)) (List.forall_mem_cons.mpr ⟨by k_mem, List.forall_mem_cons.mpr ⟨by k_mem, fun _ h => nomatch h⟩⟩) (List.forall_mem_cons.mpr ⟨List.Mem.head _, List.forall_mem_cons.mpr ⟨by k_mem, List.forall_mem_cons.mpr ⟨by k_mem, List.forall_mem_cons.mpr ⟨List.Mem.tail _ (List.Mem.head _), fun p hp => by repeat (first | exact hp | refine List.Mem.tail _ ?_)⟩⟩⟩⟩) ?off1 ⟨And.intro (.tail _ (.head _)) trivial, _, _, _, rfl, rfl, rfl, ?ex1, ?hm1⟩
        case off1 =>
          have ha : ∀ o : Obj, ∀ p ∈ (D1, W.listOf (vs.push (.ref D7)) (ep + 1)) :: (La, W.listOf vsA epA) :: (Ls, W.listOf vsS epS) :: (((D7, o) :: tl) ++ led), p.1 ≠ I := fun o => List.forall_mem_cons.mpr ⟨Nat.ne_of_lt hI1, List.forall_mem_cons.mpr ⟨Nat.ne_of_lt (hI _ (.tail _ (.head _))), List.forall_mem_cons.mpr ⟨Nat.ne_of_lt (hI _ (.tail _ (.tail _ (.head _)))), List.forall_mem_cons.mpr ⟨Nat.ne_of_gt hI7, fun p hp => (List.mem_append.mp hp).elim (htI p) (fun h => Nat.ne_of_lt (hI p (.tail _ (.tail _ (.tail _ h)))))⟩⟩⟩⟩
          have hb : ∀ o : Obj, ∀ p ∈ (D1, W.listOf (vs.push (.ref D7)) (ep + 1)) :: (La, W.listOf vsA epA) :: (Ls, W.listOf vsS epS) :: (((D7, o) :: tl) ++ led), p.1 ≠ I + 1 := fun o => List.forall_mem_cons.mpr ⟨Nat.ne_of_lt (Nat.lt_succ_of_lt hI1), List.forall_mem_cons.mpr ⟨Nat.ne_of_lt (Nat.lt_succ_of_lt (hI _ (.tail _ (.head _)))), List.forall_mem_cons.mpr ⟨Nat.ne_of_lt (Nat.lt_succ_of_lt (hI _ (.tail _ (.tail _ (.head _))))), List.forall_mem_cons.mpr ⟨Nat.ne_of_gt hJ7, fun p hp => (List.mem_append.mp hp).elim (htJ p) (fun h => Nat.ne_of_lt (Nat.lt_succ_of_lt (hI p (.tail _ (.tail _ (.tail _ h))))))⟩⟩⟩⟩
          exact fun p hp q hq => (List.mem_cons.mp hq).elim (fun e => by rw [e]; exact hb _ p hp) (fun h => (List.mem_cons.mp h).elim (fun e => by rw [e]; exact ha _ p hp) (fun h => nomatch h))
        case ex1 =>
          rw [sumT_step hgd, mixT_yes hin, mixAt_step hgd]
          exact ⟨_, _, _, vs.push (.ref D7), _, (D7, _) :: tl, rfl, rfl, rfl, rfl, by rw [Array.toList_push]; exact Mixed.snoc _ _ _ _ _ g5 g6 g7 hw⟩
        case hm1 =>
          intro z h1 h2 h3 h4
          have h5 := h4
          simp only [List.mem_cons, List.not_mem_nil, not_or, or_false] at h5
          obtain ⟨a1, a2, a3, a4, a5⟩ := h5
          simp only [h1, h2, h3, h4, a1, a2, a3, a4, a5, if_false]
      · refine of_hold ?_
        (rename (List.any ns _ = false) => hany)
        have hin : ¬ (i : Int) + 1 ∈ ns := fun h => by
          have := List.any_eq_false.mp hany _ h
          simp at this
        (rename News _ _ _ _ => N10)
        have N2 := news_sub N10 (news' := (D1, W.listOf vs ep) :: (I + 1, oe) :: (I, oi) :: (La, W.listOf vsA epA) :: (Ls, W.listOf vsS epS) :: (tl ++ led)) (List.forall_mem_cons.mpr ⟨by k_mem, List.forall_mem_cons.mpr ⟨by k_mem, List.forall_mem_cons.mpr ⟨by k_mem, List.forall_mem_cons.mpr ⟨by k_mem, List.forall_mem_cons.mpr ⟨by k_mem, fun p hp => by repeat (first | exact hp | refine List.Mem.tail _ ?_)⟩⟩⟩⟩⟩)
        have htI : ∀ p ∈ tl, p.1 ≠ I := fun p hp => off_cls N2 (p := p) (q := (I, oi)) (.tail _ (.tail _ (.tail _ (.tail _ (.tail _ (List.mem_append.mpr (.inl hp))))))) (.tail _ (.tail _ (.head _))) (by rw [hw.cls p hp, hoi]; exact type_ne (by decide))
        have htJ : ∀ p ∈ tl, p.1 ≠ I + 1 := fun p hp => off_cls N2 (p := p) (q := (I + 1, oe)) (.tail _ (.tail _ (.tail _ (.tail _ (.tail _ (List.mem_append.mpr (.inl hp))))))) (.tail _ (.head _)) (by rw [hw.cls p hp, hoe]; exact type_ne (by decide))
        refine endW (by assumption) N2 ((D1, W.listOf vs ep) :: (La, W.listOf vsA epA) :: (Ls, W.listOf vsS epS) :: (tl ++ led)) (List.forall_mem_cons.mpr ⟨by k_mem, List.forall_mem_cons.mpr ⟨by k_mem, fun _ h => nomatch h⟩⟩) (List.forall_mem_cons.mpr ⟨List.Mem.head _, List.forall_mem_cons.mpr ⟨by k_mem, List.forall_mem_cons.mpr ⟨by k_mem, fun p hp => by repeat (first | exact hp | refine List.Mem.tail _ ?_)⟩⟩⟩) ?off2 ⟨And.intro (.tail _ (.head _)) trivial, _, _, _, rfl, rfl, rfl, ?ex2, ?hm2⟩
        case off2 =>
          have ha : ∀ p ∈ (D1, W.listOf vs ep) :: (La, W.listOf vsA epA) :: (Ls, W.listOf vsS epS) :: (tl ++ led), p.1 ≠ I := List.forall_mem_cons.mpr ⟨Nat.ne_of_lt hI1, List.forall_mem_cons.mpr ⟨Nat.ne_of_lt (hI _ (.tail _ (.head _))), List.forall_mem_cons.mpr ⟨Nat.ne_of_lt (hI _ (.tail _ (.tail _ (.head _)))), fun p hp => (List.mem_append.mp hp).elim (htI p) (fun h => Nat.ne_of_lt (hI p (.tail _ (.tail _ (.tail _ h)))))⟩⟩⟩
          have hb : ∀ p ∈ (D1, W.listOf vs ep) :: (La, W.listOf vsA epA) :: (Ls, W.listOf vsS epS) :: (tl ++ led), p.1 ≠ I + 1 := List.forall_mem_cons.mpr ⟨Nat.ne_of_lt (Nat.lt_succ_of_lt hI1), List.forall_mem_cons.mpr ⟨Nat.ne_of_lt (Nat.lt_succ_of_lt (hI _ (.tail _ (.head _)))), List.forall_mem_cons.mpr ⟨Nat.ne_of_lt (Nat.lt_succ_of_lt (hI _ (.tail _ (.tail _ (.head _))))), fun p hp => (List.mem_append.mp hp).elim (htJ p) (fun h => Nat.ne_of_lt (Nat.lt_succ_of_lt (hI p (.tail _ (.tail _ (.tail _ h))))))⟩⟩⟩
          exact fun p hp q hq => (List.mem_cons.mp hq).elim (fun e => by rw [e]; exact hb p hp) (fun h => (List.mem_cons.mp h).elim (fun e => by rw [e]; exact ha p hp) (fun h => nomatch h))
        case ex2 =>
          rw [sumT_step hgd, mixT_no hin]
          exact ⟨_, _, _, vs, _, tl, rfl, rfl, rfl, rfl, hw⟩
        case hm2 =>
          intro z h1 h2 h3 h4
          have h5 := h4
          simp only [List.mem_cons, List.not_mem_nil, not_or, or_false] at h5
          obtain ⟨a1, a2, a3, a4, a5⟩ := h5
          simp only [h1, h2, h3, h4, a1, a2, a3, a4, a5, if_false]
  · rintro u _ _ _ nx h tk hl' ⟨t5, t6, t7, vs, ep, tl, rfl, rfl, rfl, rfl, hw⟩ F' N'
    clear lF' lN'
    k_steps
    exact ret _ _ _ _ _ _ (by k_asm) (by k_asm) hw
end
end
end Mine
end S_X1
end G_L1
section S_F1
open PySem PySem.W PyProof.Rows
namespace Mine
example (w : World) : (fun (_ : Frag) (_ : OpenLaw) => True) (Mine.hd.heap_39 w.params) PySem.Challenge.rw_tr0035_01 := by k_fill; trivial
example : True := by w_top off; trivial
set_option linter.unusedVariables false
set_option maxRecDepth 100000
set_option maxHeartbeats 2000000
section
variable {w : World} {mean : ExcName → Option Value} {mg mb : Str → Option Value} {dp un : Nat} {gd : Option (List Code)} {cn : Str} {cs : Scope} {a : Addr} {ccd : Value} {cl : List (Str × Addr)} {outer : List Env} {A₀ : Around} {base h₀ : Heap} {L : Addr} {m : Str → Option Value} {news : List (Addr × Obj)} {s : Shared} {Q E : Value → Shared → Prop}
section
theorem lleft {j tn f s0 : Int} {t1 t2 t3 t4 : Tok} (B : Below A₀ base outer h₀) (F : Fr h₀ L s.heap m) (X : (Mine.hd.heap_39 w.params).In h₀) (N : News h₀ L s.heap news) (T : Top VW (looseW VW []) mean mg mb h₀) (hk : cs.kind = .function) (hd : dp + 30 < recursionLimit) (hu : un + 280 < cLine)
    (ret : ∀ D vs ep h' tk', Fr h₀ L h' m → News h₀ L h' ((D, W.listOf vs ep) :: news) → (∀ p ∈ news, p.1 < D) → IntsAre vs.toList (leftL j tn f s0) → Q (.ref D) { s with heap := h', toks := tk' }) :
    wpAny (model PG w) (ktrTop dp un gd cn cs L a ccd cl outer) (call (.ref 131) [.int j t1, .int tn t2, .int f t3, .int s0 t4]) Q E s := by
  refine wpAny_call ?_
  k_dflt ktr_enter
  k_steps
  · (rename (Int.fmod j 3 ≠ 0) => c1); (rename (Int.fmod j 3 ≠ 1) => c2); (rename (∀ p, p ∈ news → p.1 < _) => l1)
    exact ret _ _ _ _ _ (by k_asm) (by k_asm) l1 (by rw [leftL, if_pos c1, if_pos c2]; exact .cons _ _ (.cons _ _ .nil))
  · (rename (Int.fmod j 3 ≠ 0) => c1); (rename (Int.fmod j 3 = 1) => c2); (rename (∀ p, p ∈ news → p.1 < _) => l1)
    exact ret _ _ _ _ _ (by k_asm) (by k_asm) l1 (by rw [leftL, if_pos c1, if_neg (fun h => h c2)]; exact .cons _ _ .nil)
  · (rename (Int.fmod j 3 = 0) => c1); (rename (Int.fmod j 3 ≠ 1) => c2); (rename (∀ p, p ∈ news → p.1 < _) => l1)
    exact ret _ _ _ _ _ (by k_asm) (by k_asm) l1 (by rw [leftL, if_neg (fun h => h c1), if_pos c2]; exact .cons _ _ .nil)
  · (rename (Int.fmod j 3 = 0) => c1); (rename (Int.fmod j 3 = 1) => c2)
    exfalso
    omega
end
end
end Mine
end S_F1
section G_F2
open PySem PySem.W PyProof.Rows Mine
local macro_rules | `(tactic| walk_at "subscriptTail Name Constant ref int") => `(tactic| (k_here; k_dflt (refine itemAtI (by k_asm) (by k_mem) (by decide) (by decide) rfl ?_; (try dsimp only))))
local macro_rules | `(tactic| walk_at "ite") => `(tactic| (k_here; k_dflt (first | refine ite_yes (by assumption) ?_ | refine ite_no (by assumption) ?_)))
section S_F2
open PySem PySem.W PyProof.Rows
namespace Mine
example (w : World) : (fun (_ : Frag) (_ : OpenLaw) => True) (Mine.hd.heap_39 w.params) PySem.Challenge.rw_tr0035_01 := by k_fill; trivial
example : True := by w_top off; trivial
set_option linter.unusedVariables false
set_option maxRecDepth 100000
set_option maxHeartbeats 2000000
section
variable {w : World} {mean : ExcName → Option Value} {mg mb : Str → Option Value} {dp un : Nat} {gd : Option (List Code)} {cn : Str} {cs : Scope} {a : Addr} {ccd : Value} {cl : List (Str × Addr)} {outer : List Env} {A₀ : Around} {base h₀ : Heap} {L : Addr} {m : Str → Option Value} {news : List (Addr × Obj)} {s : Shared} {Q E : Value → Shared → Prop}
section
theorem lfits1 {Tm Ll : Addr} {hu0 sh li : UInt64} {u5 u6 u7 t1 t2 : Tok} {a0 size : Int} {ep : Nat} {led : List (Addr × Obj)} (B : Below A₀ base outer h₀) (F : Fr h₀ L s.heap m) (X : (Mine.hd.heap_39 w.params).In h₀) (N : News h₀ L s.heap ((Ll, W.listOf #[.int a0 t1] ep) :: (Tm, tupO #[.float hu0 u5, .float sh u6, .float li u7]) :: led)) (T : Top VW (looseW VW []) mean mg mb h₀) (hk : cs.kind = .function) (hd : dp + 30 < recursionLimit) (hu : un + 280 < cLine)
    (hs : (Float64.cmp sh 0 == some Ordering.gt) = true) (hh : (Float64.cmp hu0 (ageH a0) == some Ordering.eq) = true) (hl : (Float64.cmp li (frac64 (size + 1)) == some Ordering.eq) = true) (hi1 : Float64.isInf (ageH a0) = false) (hi2 : Float64.isInf (frac64 (size + 1)) = false)
    (ret : ∀ h' tk', Fr h₀ L h' m → News h₀ L h' ((Ll, W.listOf #[.int a0 t1] ep) :: (Tm, tupO #[.float hu0 u5, .float sh u6, .float li u7]) :: led) → Q (.bool true) { s with heap := h', toks := tk' }) :
    wpAny (model PG w) (ktrTop dp un gd cn cs L a ccd cl outer) (call (.ref 138) [.ref Tm, .ref Ll, .int size t2]) Q E s := by
  have hE : (a0 == a0) = true := by simp
  refine wpAny_call ?_
  k_dflt ktr_enter
  k_steps
  all_goals first
    | exact absurd ((‹Float64.isInf _ = true› : _).symm.trans hi1) (by decide)
    | exact absurd ((‹Float64.isInf _ = true› : _).symm.trans hi2) (by decide)
    | exact absurd (hh.symm.trans ‹(Float64.cmp hu0 _ == some Ordering.eq) = false›) (by decide)
    | exact absurd (hs.symm.trans ‹(Float64.cmp sh _ == some Ordering.gt) = false›) (by decide)
    | (unfold frac64 at hl; rw [hl]; exact ret _ _ (by k_asm) (by k_asm))
end
end
end Mine
end S_F2
section S_F3
open PySem PySem.W PyProof.Rows
namespace Mine
example (w : World) : (fun (_ : Frag) (_ : OpenLaw) => True) (Mine.hd.heap_39 w.params) PySem.Challenge.rw_tr0035_01 := by k_fill; trivial
example : True := by w_top off; trivial
set_option linter.unusedVariables false
set_option maxRecDepth 100000
set_option maxHeartbeats 2000000
section
variable {w : World} {mean : ExcName → Option Value} {mg mb : Str → Option Value} {dp un : Nat} {gd : Option (List Code)} {cn : Str} {cs : Scope} {a : Addr} {ccd : Value} {cl : List (Str × Addr)} {outer : List Env} {A₀ : Around} {base h₀ : Heap} {L : Addr} {m : Str → Option Value} {news : List (Addr × Obj)} {s : Shared} {Q E : Value → Shared → Prop}
section
local macro_rules | `(tactic| walk_at "compareOp Eq ref ref") => `(tactic| (k_here; (try dsimp only); refine hold_of ?_))
local macro_rules | `(tactic| walk_at "execs cons") => `(tactic| (k_here; refine' tok_gen ?hn ?_; (case hn => (fail_if_success with_reducible assumption); first | exact Nat.succ_pos _ | exact Nat.le_add_left 1 _ | omega); intro tk htk))
theorem lfits2A {Tm Ll : Addr} {hu0 sh li : UInt64} {u5 u6 u7 t1 t3 t2 : Tok} {a0 a1 size : Int} {ep : Nat} {led : List (Addr × Obj)} (B : Below A₀ base outer h₀) (F : Fr h₀ L s.heap m) (X : (Mine.hd.heap_39 w.params).In h₀) (N : News h₀ L s.heap ((Ll, W.listOf #[.int a0 t1, .int a1 t3] ep) :: (Tm, tupO #[.float hu0 u5, .float sh u6, .float li u7]) :: led)) (T : Top VW (looseW VW []) mean mg mb h₀) (hk : cs.kind = .function) (hd : dp + 30 < recursionLimit) (hu : un + 280 < cLine)
    (hA : (Int.fmod (a0 - a1) 4 == 2) = true) (hs : (Float64.cmp sh 0 == some Ordering.eq) = true) (hh : (Float64.cmp hu0 0 == some Ordering.eq) = true) (hl : (Float64.cmp li (frac64 size) == some Ordering.eq) = true) (hi2 : Float64.isInf (frac64 size) = false) (q5 : u5 ≠ 0) (q6 : u6 ≠ 0) (q7 : u7 ≠ 0)
    (ret : ∀ h' tk', Fr h₀ L h' m → News h₀ L h' ((Ll, W.listOf #[.int a0 t1, .int a1 t3] ep) :: (Tm, tupO #[.float hu0 u5, .float sh u6, .float li u7]) :: led) → Q (.bool true) { s with heap := h', toks := tk' }) :
    wpAny (model PG w) (ktrTop dp un gd cn cs L a ccd cl outer) (call (.ref 138) [.ref Tm, .ref Ll, .int size t2]) Q E s := by
  refine wpAny_call ?_
  k_dflt ktr_enter
  k_steps
  · exact absurd ((‹Float64.isInf _ = true› : _).symm.trans hi2) (by decide)
  · refine of_hold ?_
    (rename News _ _ _ _ => N9)
    refine tup3_eq N9 (by k_mem) (.head _) (by ktr_units) (noneBooked w (by k_in)) q5 q6 q7 (by first | exact Nat.succ_ne_zero _ | (show @Ne Nat _ 0; omega)) (by first | exact Nat.succ_ne_zero _ | (show @Ne Nat _ 0; omega)) (by first | exact Nat.succ_ne_zero _ | (show @Ne Nat _ 0; omega)) hh hs hl ?_
    k_steps
    exact ret _ _ (by k_asm) (news_sub (by k_asm) (fun p hp => List.Mem.tail _ hp))
end
end
end Mine
end S_F3
section S_F4
open PySem PySem.W PyProof.Rows
namespace Mine
example (w : World) : (fun (_ : Frag) (_ : OpenLaw) => True) (Mine.hd.heap_39 w.params) PySem.Challenge.rw_tr0035_01 := by k_fill; trivial
example : True := by w_top off; trivial
set_option linter.unusedVariables false
set_option maxRecDepth 100000
set_option maxHeartbeats 2000000
section
variable {w : World} {mean : ExcName → Option Value} {mg mb : Str → Option Value} {dp un : Nat} {gd : Option (List Code)} {cn : Str} {cs : Scope} {a : Addr} {ccd : Value} {cl : List (Str × Addr)} {outer : List Env} {A₀ : Around} {base h₀ : Heap} {L : Addr} {m : Str → Option Value} {news : List (Addr × Obj)} {s : Shared} {Q E : Value → Shared → Prop}
section
theorem lfits2C {Tm Ll : Addr} {hu0 sh li : UInt64} {u5 u6 u7 t1 t3 t2 : Tok} {a0 a1 size : Int} {ep : Nat} {led : List (Addr × Obj)} (B : Below A₀ base outer h₀) (F : Fr h₀ L s.heap m) (X : (Mine.hd.heap_39 w.params).In h₀) (N : News h₀ L s.heap ((Ll, W.listOf #[.int a0 t1, .int a1 t3] ep) :: (Tm, tupO #[.float hu0 u5, .float sh u6, .float li u7]) :: led)) (T : Top VW (looseW VW []) mean mg mb h₀) (hk : cs.kind = .function) (hd : dp + 30 < recursionLimit) (hu : un + 280 < cLine)
    (hA : (Int.fmod (a0 - a1) 4 == 2) = false) (hB : (a0 == a1) = false) (hC : (Int.fmod (a1 - a0) 4 == 1) = true) (hD1 : (Float64.cmpInt (Float64.mul hu0 (Float64.ofInt 4)) a0 == some Ordering.gt) = true) (hD2 : (Float64.cmpInt (Float64.mul hu0 (Float64.ofInt 4)) (a0 + 1) == some Ordering.lt) = true)
    (hl1 : ([0, 3].any fun x => x == a0) = true → (Float64.cmp li (frac64 (size + 1)) == some Ordering.eq) = true) (hl2 : ([0, 3].any fun x => x == a0) = false → (Float64.cmp li (frac64 (size + 2)) == some Ordering.eq) = true) (hi1 : Float64.isInf (frac64 (size + 1)) = false) (hi2 : Float64.isInf (frac64 (size + 2)) = false)
    (ret : ∀ h' tk', Fr h₀ L h' m → News h₀ L h' ((Ll, W.listOf #[.int a0 t1, .int a1 t3] ep) :: (Tm, tupO #[.float hu0 u5, .float sh u6, .float li u7]) :: led) → Q (.bool true) { s with heap := h', toks := tk' }) :
    wpAny (model PG w) (ktrTop dp un gd cn cs L a ccd cl outer) (call (.ref 138) [.ref Tm, .ref Ll, .int size t2]) Q E s := by
  refine wpAny_call ?_
  k_dflt ktr_enter
  k_steps
  all_goals first
    | exact absurd ((‹Float64.isInf _ = true› : _).symm.trans hi1) (by decide)
    | exact absurd ((‹Float64.isInf _ = true› : _).symm.trans hi2) (by decide)
    | exact absurd ((‹(Float64.cmpInt _ _ == some Ordering.gt) = false› : _).symm.trans hD1) (by decide)
    | exact absurd ((‹(Float64.cmpInt _ _ == some Ordering.lt) = false› : _).symm.trans hD2) (by decide)
    | (have hq := hl1 ‹_›; unfold frac64 at hq; rw [hq]; exact ret _ _ (by k_asm) (news_sub (by k_asm) (fun p hp => List.Mem.tail _ hp)))
    | (have hq := hl2 ‹_›; unfold frac64 at hq; rw [hq]; exact ret _ _ (by k_asm) (news_sub (by k_asm) (fun p hp => List.Mem.tail _ hp)))
theorem lfits2E {Tm Ll : Addr} {hu0 sh li : UInt64} {u5 u6 u7 t1 t3 t2 : Tok} {a0 a1 size : Int} {ep : Nat} {led : List (Addr × Obj)} (B : Below A₀ base outer h₀) (F : Fr h₀ L s.heap m) (X : (Mine.hd.heap_39 w.params).In h₀) (N : News h₀ L s.heap ((Ll, W.listOf #[.int a0 t1, .int a1 t3] ep) :: (Tm, tupO #[.float hu0 u5, .float sh u6, .float li u7]) :: led)) (T : Top VW (looseW VW []) mean mg mb h₀) (hk : cs.kind = .function) (hd : dp + 30 < recursionLimit) (hu : un + 280 < cLine)
    (hA : (Int.fmod (a0 - a1) 4 == 2) = false) (hB : (a0 == a1) = false) (hC : (Int.fmod (a1 - a0) 4 == 1) = false) (hD1 : (Float64.cmpInt (Float64.mul hu0 (Float64.ofInt 4)) a1 == some Ordering.gt) = true) (hD2 : (Float64.cmpInt (Float64.mul hu0 (Float64.ofInt 4)) (a1 + 1) == some Ordering.lt) = true)
    (hl1 : ([0, 3].any fun x => x == a1) = true → (Float64.cmp li (frac64 (size + 1)) == some Ordering.eq) = true) (hl2 : ([0, 3].any fun x => x == a1) = false → (Float64.cmp li (frac64 (size + 2)) == some Ordering.eq) = true) (hi1 : Float64.isInf (frac64 (size + 1)) = false) (hi2 : Float64.isInf (frac64 (size + 2)) = false)
    (ret : ∀ h' tk', Fr h₀ L h' m → News h₀ L h' ((Ll, W.listOf #[.int a0 t1, .int a1 t3] ep) :: (Tm, tupO #[.float hu0 u5, .float sh u6, .float li u7]) :: led) → Q (.bool true) { s with heap := h', toks := tk' }) :
    wpAny (model PG w) (ktrTop dp un gd cn cs L a ccd cl outer) (call (.ref 138) [.ref Tm, .ref Ll, .int size t2]) Q E s := by
  refine wpAny_call ?_
  k_dflt ktr_enter
  k_steps
  all_goals first
    | exact absurd ((‹Float64.isInf _ = true› : _).symm.trans hi1) (by decide)
    | exact absurd ((‹Float64.isInf _ = true› : _).symm.trans hi2) (by decide)
    | exact absurd ((‹(Float64.cmpInt _ _ == some Ordering.gt) = false› : _).symm.trans hD1) (by decide)
    | exact absurd ((‹(Float64.cmpInt _ _ == some Ordering.lt) = false› : _).symm.trans hD2) (by decide)
    | (have hq := hl1 ‹_›; unfold frac64 at hq; rw [hq]; exact ret _ _ (by k_asm) (news_sub (by k_asm) (fun p hp => List.Mem.tail _ hp)))
    | (have hq := hl2 ‹_›; unfold frac64 at hq; rw [hq]; exact ret _ _ (by k_asm) (news_sub (by k_asm) (fun p hp => List.Mem.tail _ hp)))
end
end
end Mine
end S_F4
section S_F5
open PySem PySem.W PyProof.Rows
namespace Mine
example (w : World) : (fun (_ : Frag) (_ : OpenLaw) => True) (Mine.hd.heap_39 w.params) PySem.Challenge.rw_tr0035_01 := by k_fill; trivial
example : True := by w_top off; trivial
set_option linter.unusedVariables false
set_option maxRecDepth 100000
set_option maxHeartbeats 2000000
section
variable {w : World} {mean : ExcName → Option Value} {mg mb : Str → Option Value} {dp un : Nat} {gd : Option (List Code)} {cn : Str} {cs : Scope} {a : Addr} {ccd : Value} {cl : List (Str × Addr)} {outer : List Env} {A₀ : Around} {base h₀ : Heap} {L : Addr} {m : Str → Option Value} {news : List (Addr × Obj)} {s : Shared} {Q E : Value → Shared → Prop}
local macro_rules | `(tactic| walk_at "pad none") => `(tactic| skip)
section
theorem lfits2B {Tm Ll : Addr} {hu0 sh li : UInt64} {u5 u6 u7 t1 t3 t2 : Tok} {a0 a1 size : Int} {ep : Nat} {led : List (Addr × Obj)} (B : Below A₀ base outer h₀) (F : Fr h₀ L s.heap m) (X : (Mine.hd.heap_39 w.params).In h₀) (N : News h₀ L s.heap ((Ll, W.listOf #[.int a0 t1, .int a1 t3] ep) :: (Tm, tupO #[.float hu0 u5, .float sh u6, .float li u7]) :: led)) (T : Top VW (looseW VW []) mean mg mb h₀) (hk : cs.kind = .function) (hd : dp + 30 < recursionLimit) (hu : un + 280 < cLine)
    (hA : (Int.fmod (a0 - a1) 4 == 2) = false) (hB : (a0 == a1) = true) (hs : (Float64.cmp sh 0 == some Ordering.gt) = true) (hh : (Float64.cmp hu0 (ageH a0) == some Ordering.eq) = true) (hl : (Float64.cmp li (frac64 (size + 2)) == some Ordering.eq) = true) (hi1 : Float64.isInf (ageH a0) = false) (hi2 : Float64.isInf (frac64 (size + 2)) = false)
    (ret : ∀ h' tk', Fr h₀ L h' m → News h₀ L h' ((Ll, W.listOf #[.int a0 t1, .int a1 t3] ep) :: (Tm, tupO #[.float hu0 u5, .float sh u6, .float li u7]) :: led) → Q (.bool true) { s with heap := h', toks := tk' }) :
    wpAny (model PG w) (ktrTop dp un gd cn cs L a ccd cl outer) (call (.ref 138) [.ref Tm, .ref Ll, .int size t2]) Q E s := by
  refine wpAny_call ?_
  k_dflt ktr_enter
  k_steps
  all_goals first
    | exact absurd ((‹Float64.isInf _ = true› : _).symm.trans hi1) (by decide)
    | exact absurd ((‹Float64.isInf _ = true› : _).symm.trans hi2) (by decide)
    | exact absurd (hh.symm.trans ‹(Float64.cmp hu0 _ == some Ordering.eq) = false›) (by decide)
    | exact absurd (hs.symm.trans ‹(Float64.cmp sh _ == some Ordering.gt) = false›) (by decide)
    | (unfold frac64 at hl; rw [hl]; exact ret _ _ (by k_asm) (by k_asm))
end
end
end Mine
end S_F5
end G_F2
section S_Z1
open PySem PySem.W PyProof.Rows
set_option exponentiation.threshold 2000
set_option maxRecDepth 100000
namespace Mine
noncomputable def parseGo : Nat → List Int → Option (List Int)
  | 0, _ => none
  | _ + 1, [] => some []
  | k + 1, c :: l => match vread (c :: l) with
    | none => none
    | some (v, r) => match parseGo k r with
      | none => none
      | some vs => some (v :: vs)
theorem parse_ok : ∀ (k : Nat) (l vs : List Int), parseGo k l = some vs → Parsed l vs
  | 0, _, _, h => by cases h
  | k + 1, [], vs, h => by
    have e : vs = [] := by simpa [parseGo] using h.symm
    subst e; exact .nil
  | k + 1, c :: l, vs, h => by
    simp only [parseGo] at h
    split at h
    · cases h
    · rename_i v r hv
      split at h
      · cases h
      · rename_i vs' hp
        have e : v :: vs' = vs := Option.some.inj h
        subst e
        exact .cons hv (parse_ok k r vs' hp)
noncomputable def due0 (n f s : Nat) : List Int := dueL (szs n) n f s ((szs n).getD n 0).toNat
noncomputable def ages0 (n f s : Nat) : List Int := agesL (due0 n f s)
noncomputable def mixes0 (n f s : Nat) : List (UInt64 × UInt64 × UInt64) := mixT (ages0 n f s) (szs n) (ages0 n f s).length
noncomputable def fitsB (c : UInt64 × UInt64 × UInt64) (ls : List Int) (size : Int) : Bool :=
  match ls with
  | [a] => (Float64.cmp c.2.1 0 == some Ordering.gt) && (Float64.cmp c.1 (ageH a) == some Ordering.eq) && (Float64.cmp c.2.2 (frac64 (size + 1)) == some Ordering.eq) && !Float64.isInf (ageH a) && !Float64.isInf (frac64 (size + 1))
  | [a, b] =>
    if (Int.fmod (a - b) 4 == 2) = true then (Float64.cmp c.2.1 0 == some Ordering.eq) && (Float64.cmp c.1 0 == some Ordering.eq) && (Float64.cmp c.2.2 (frac64 size) == some Ordering.eq) && !Float64.isInf (frac64 size)
    else if (a == b) = true then (Float64.cmp c.2.1 0 == some Ordering.gt) && (Float64.cmp c.1 (ageH a) == some Ordering.eq) && (Float64.cmp c.2.2 (frac64 (size + 2)) == some Ordering.eq) && !Float64.isInf (ageH a) && !Float64.isInf (frac64 (size + 2))
    else
      let low := if (Int.fmod (b - a) 4 == 1) = true then a else b
      (Float64.cmpInt (Float64.mul c.1 (Float64.ofInt 4)) low == some Ordering.gt) && (Float64.cmpInt (Float64.mul c.1 (Float64.ofInt 4)) (low + 1) == some Ordering.lt) &&
        (if ([0, 3].any fun x => x == low) = true then (Float64.cmp c.2.2 (frac64 (size + 1)) == some Ordering.eq) else (Float64.cmp c.2.2 (frac64 (size + 2)) == some Ordering.eq)) &&
        !Float64.isInf (frac64 (size + 1)) && !Float64.isInf (frac64 (size + 2))
  | _ => false
theorem pure1_c0 : ∀ f, f < 4 → ∀ s, s < 4 → parseGo 300 (codes (gst f s 3).2) = some (due0 4 f s) := by decide +kernel
theorem pure1_c1 : ∀ f, f < 4 → ∀ s, s < 4 → parseGo 300 (codes (gst f s 4).2) = some (due0 5 f s) := by decide +kernel
theorem pure1_c2 : ∀ f, f < 4 → ∀ s, s < 4 → parseGo 300 (codes (gst f s 5).2) = some (due0 6 f s) := by decide +kernel
theorem pure1_c3 : ∀ f, f < 4 → ∀ s, s < 4 → parseGo 300 (codes (gst f s 6).2) = some (due0 7 f s) := by decide +kernel
theorem pure1 : ∀ n, n < 4 → ∀ f, f < 4 → ∀ s, s < 4 → parseGo 300 (codes (gst f s (n + 4 - 1)).2) = some (due0 (n + 4) f s)
  | 0, _ => pure1_c0
  | 1, _ => pure1_c1
  | 2, _ => pure1_c2
  | 3, _ => pure1_c3
  | k + 4, h => absurd h (by omega)
theorem pure2 : ∀ n, n < 4 → ∀ f, f < 4 → ∀ s, s < 4 → (due0 (n + 4) f s)[0]? = some 38 := by decide +kernel
end Mine
end S_Z1
section S_FF
open PySem PySem.W PyProof.Rows
namespace Mine
example (w : World) : (fun (_ : Frag) (_ : OpenLaw) => True) (Mine.hd.heap_39 w.params) PySem.Challenge.rw_tr0035_01 := by k_fill; trivial
example : True := by w_top off; trivial
set_option linter.unusedVariables false
set_option maxRecDepth 100000
set_option maxHeartbeats 8000000
section
variable {w : World} {mean : ExcName → Option Value} {mg mb : Str → Option Value} {dp un : Nat} {gd : Option (List Code)} {cn : Str} {cs : Scope} {a : Addr} {ccd : Value} {cl : List (Str × Addr)} {outer : List Env} {A₀ : Around} {base h₀ : Heap} {L : Addr} {m : Str → Option Value} {news : List (Addr × Obj)} {s : Shared} {Q E : Value → Shared → Prop}
theorem lfits {Tm Ll : Addr} {c : UInt64 × UInt64 × UInt64} {u5 u6 u7 t2 : Tok} {ls : List Int} {vsL : Array Value} {size : Int} {ep : Nat} {led : List (Addr × Obj)} (B : Below A₀ base outer h₀) (F : Fr h₀ L s.heap m) (X : (Mine.hd.heap_39 w.params).In h₀) (N : News h₀ L s.heap ((Ll, W.listOf vsL ep) :: (Tm, tupO #[.float c.1 u5, .float c.2.1 u6, .float c.2.2 u7]) :: led)) (T : Top VW (looseW VW []) mean mg mb h₀) (hk : cs.kind = .function) (hd : dp + 30 < recursionLimit) (hu : un + 280 < cLine)
    (hL : IntsAre vsL.toList ls) (hfit : fitsB c ls size = true) (q5 : u5 ≠ 0) (q6 : u6 ≠ 0) (q7 : u7 ≠ 0)
    (ret : ∀ h' tk', Fr h₀ L h' m → News h₀ L h' ((Ll, W.listOf vsL ep) :: (Tm, tupO #[.float c.1 u5, .float c.2.1 u6, .float c.2.2 u7]) :: led) → Q (.bool true) { s with heap := h', toks := tk' }) :
    wpAny (model PG w) (ktrTop dp un gd cn cs L a ccd cl outer) (call (.ref 138) [.ref Tm, .ref Ll, .int size t2]) Q E s := by
  obtain ⟨vl⟩ := vsL
  obtain ⟨hu0, sh, li⟩ := c
  have hL' : IntsAre vl ls := hL
  cases hL' with
  | nil => simp [fitsB] at hfit
  | cons a ta hr =>
    cases hr with
    | nil =>
      simp only [fitsB, Bool.and_eq_true, Bool.not_eq_true'] at hfit
      obtain ⟨⟨⟨⟨x1, x2⟩, x3⟩, x4⟩, x5⟩ := hfit
      exact lfits1 B F X N T hk hd hu x1 x2 x3 x4 x5 ret
    | cons b tb hr2 =>
      cases hr2 with
      | cons d td hr3 => simp [fitsB] at hfit
      | nil =>
        simp only [fitsB] at hfit
        cases e1 : (Int.fmod (a - b) 4 == 2) with
        | true =>
          rw [e1] at hfit
          simp only [if_true, Bool.and_eq_true, Bool.not_eq_true'] at hfit
          obtain ⟨⟨⟨x1, x2⟩, x3⟩, x4⟩ := hfit
          exact lfits2A B F X N T hk hd hu e1 x1 x2 x3 x4 q5 q6 q7 ret
        | false =>
          rw [e1] at hfit
          cases e2 : (a == b) with
          | true =>
            rw [e2] at hfit
            simp only [if_true, Bool.false_eq_true, if_false, Bool.and_eq_true, Bool.not_eq_true'] at hfit
            obtain ⟨⟨⟨⟨x1, x2⟩, x3⟩, x4⟩, x5⟩ := hfit
            exact lfits2B B F X N T hk hd hu e1 e2 x1 x2 x3 x4 x5 ret
          | false =>
            rw [e2] at hfit
            cases e3 : (Int.fmod (b - a) 4 == 1) with
            | true =>
              rw [e3] at hfit
              simp only [if_true, Bool.false_eq_true, if_false, Bool.and_eq_true, Bool.not_eq_true'] at hfit
              obtain ⟨⟨⟨⟨x1, x2⟩, x3⟩, x4⟩, x5⟩ := hfit
              exact lfits2C B F X N T hk hd hu e1 e2 e3 x1 x2 (fun h => by rw [h] at x3; simpa using x3) (fun h => by rw [h] at x3; simpa using x3) x4 x5 ret
            | false =>
              rw [e3] at hfit
              simp only [if_true, Bool.false_eq_true, if_false, Bool.and_eq_true, Bool.not_eq_true'] at hfit
              obtain ⟨⟨⟨⟨x1, x2⟩, x3⟩, x4⟩, x5⟩ := hfit
              exact lfits2E B F X N T hk hd hu e1 e2 e3 x1 x2 (fun h => by rw [h] at x3; simpa using x3) (fun h => by rw [h] at x3; simpa using x3) x4 x5 ret
end
end Mine
end S_FF
section S_Z3
open PySem PySem.W PyProof.Rows
set_option exponentiation.threshold 2000
set_option maxRecDepth 100000
set_option maxHeartbeats 8000000
namespace Mine
noncomputable def halfT : List UInt64 := [0, 4602678819172646912, 4607182418800017408, 4609434218613702656, 4611686018427387904, 4612811918334230528, 4613937818241073152, 4615063718147915776, 4616189618054758400, 4616752568008179712, 4617315517961601024, 4617878467915022336, 4618441417868443648, 4619004367821864960, 4619567317775286272, 4620130267728707584, 4620693217682128896, 4620974692658839552, 4621256167635550208, 4621537642612260864, 4621819117588971520, 4622100592565682176, 4622382067542392832, 4622663542519103488, 4622945017495814144, 4623226492472524800, 4623507967449235456, 4623789442425946112, 4624070917402656768, 4624352392379367424, 4624633867356078080, 4624915342332788736, 4625196817309499392, 4625337554797854720, 4625478292286210048, 4625619029774565376, 4625759767262920704, 4625900504751276032, 4626041242239631360, 4626181979727986688, 4626322717216342016, 4626463454704697344, 4626604192193052672, 4626744929681408000, 4626885667169763328, 4627026404658118656, 4627167142146473984, 4627307879634829312, 4627448617123184640]
noncomputable def half (x : Nat) : UInt64 := halfT.getD x 0
noncomputable def trip (t : Nat × Nat × Nat) : UInt64 × UInt64 × UInt64 := (half t.1, half t.2.1, half t.2.2)
noncomputable def colN : Nat → Nat × Nat × Nat
  | 0 => (2, 0, 0)
  | 1 => (1, 2, 0)
  | 2 => (0, 2, 2)
  | 3 => (1, 0, 2)
  | k + 4 => colN k
theorem col_ok : ∀ a : Nat, a < 11 → hsvF (ageH (a : Int)) = trip (colN a) ∧ (colN a).1 < 3 ∧ (colN a).2.1 < 3 ∧ (colN a).2.2 < 3 := by decide +kernel
theorem half_add : ∀ x : Nat, x < 46 → ∀ c : Nat, c < 3 → Float64.add (half x) (half c) = half (x + c) := by decide +kernel
noncomputable def chk : List Int → Nat × Nat × Nat → List (Nat × Nat × Nat) → Bool
  | [], _, [] => true
  | .ofNat a :: r, acc, t :: tr => (Nat.blt a 11 && (Nat.blt acc.1 46 && Nat.blt acc.2.1 46 && Nat.blt acc.2.2 46)) && (Nat.beq (acc.1 + (colN a).1) t.1 && Nat.beq (acc.2.1 + (colN a).2.1) t.2.1 && Nat.beq (acc.2.2 + (colN a).2.2) t.2.2) && chk r t tr
  | _, _, _ => false
theorem chk_ok (ag : List Int) : ∀ (r : List Int) (k : Nat) (acc : Nat × Nat × Nat) (tab : List (Nat × Nat × Nat)), ag.drop k = r → sumT ag k = trip acc → chk r acc tab = true → ∀ i, i < r.length → sumT ag (k + i + 1) = trip (tab.getD i (0, 0, 0))
  | [], _, _, _, _, _, _, i, hi => by simp at hi
  | .negSucc a :: r, k, acc, [], _, _, h, _, _ => by simp [chk] at h
  | .negSucc a :: r, k, acc, t :: tr, _, _, h, _, _ => by simp [chk] at h
  | .ofNat a :: r, k, acc, [], _, _, h, _, _ => by simp [chk] at h
  | .ofNat a :: r, k, acc, t :: tr, hd, hs, h, i, hi => by
    simp only [chk, Bool.and_eq_true, Nat.blt_eq, Nat.beq_eq] at h
    obtain ⟨⟨⟨ha, ⟨g1, g2⟩, g3⟩, ⟨e1, e2⟩, e3⟩, hr⟩ := h
    obtain ⟨c0, c1, c2, c3⟩ := col_ok a ha
    have ea : ag.getD k 0 = (a : Int) := by
      have := congrArg List.head? hd
      rw [List.head?_drop] at this
      simp [List.getD, this]
    have es : sumT ag (k + 1) = trip t := by
      rw [sumT_step ea, hs, c0]
      have f1 : Float64.add (trip acc).1 (trip (colN a)).1 = half t.1 := by rw [← e1]; exact half_add _ g1 _ c1
      have f2 : Float64.add (trip acc).2.1 (trip (colN a)).2.1 = half t.2.1 := by rw [← e2]; exact half_add _ g2 _ c2
      have f3 : Float64.add (trip acc).2.2 (trip (colN a)).2.2 = half t.2.2 := by rw [← e3]; exact half_add _ g3 _ c3
      rw [f1, f2, f3]
      rfl
    cases i with
    | zero => simpa using es
    | succ i =>
      have hd2 : ag.drop (k + 1) = r := by rw [← List.drop_drop, hd]; rfl
      have := chk_ok ag r (k + 1) t tr hd2 es hr i (by simpa using hi)
      rw [show k + (i + 1) + 1 = k + 1 + i + 1 by omega, this]
      simp
noncomputable def tabs : List (List (Nat × Nat × Nat)) := [[(1, 0, 2),
  (1, 2, 4),
  (2, 4, 4),
  (3, 6, 4),
  (5, 6, 4)],
 [(2, 0, 0),
  (2, 2, 2),
  (2, 4, 4),
  (2, 6, 6),
  (4, 6, 6)],
 [(1, 2, 0),
  (1, 4, 2),
  (2, 4, 4),
  (3, 4, 6),
  (5, 4, 6)],
 [(0, 2, 2),
  (0, 4, 4),
  (2, 4, 4),
  (4, 4, 4),
  (6, 4, 4)],
 [(1, 0, 2),
  (2, 0, 4),
  (3, 2, 4),
  (4, 4, 4),
  (5, 6, 4)],
 [(2, 0, 0),
  (3, 0, 2),
  (3, 2, 4),
  (3, 4, 6),
  (4, 6, 6)],
 [(1, 2, 0),
  (2, 2, 2),
  (3, 2, 4),
  (4, 2, 6),
  (5, 4, 6)],
 [(0, 2, 2),
  (1, 2, 4),
  (3, 2, 4),
  (5, 2, 4),
  (6, 4, 4)],
 [(1, 0, 2),
  (3, 0, 2),
  (4, 2, 2),
  (5, 4, 2),
  (5, 6, 4)],
 [(2, 0, 0),
  (4, 0, 0),
  (4, 2, 2),
  (4, 4, 4),
  (4, 6, 6)],
 [(1, 2, 0),
  (3, 2, 0),
  (4, 2, 2),
  (5, 2, 4),
  (5, 4, 6)],
 [(0, 2, 2),
  (2, 2, 2),
  (4, 2, 2),
  (6, 2, 2),
  (6, 4, 4)],
 [(1, 0, 2),
  (2, 2, 2),
  (3, 4, 2),
  (4, 6, 2),
  (5, 6, 4)],
 [(2, 0, 0),
  (3, 2, 0),
  (3, 4, 2),
  (3, 6, 4),
  (4, 6, 6)],
 [(1, 2, 0),
  (2, 4, 0),
  (3, 4, 2),
  (4, 4, 4),
  (5, 4, 6)],
 [(0, 2, 2),
  (1, 4, 2),
  (3, 4, 2),
  (5, 4, 2),
  (6, 4, 4)],
 [(2, 0, 0),
  (3, 0, 2),
  (3, 2, 4),
  (3, 4, 6),
  (4, 6, 6),
  (4, 8, 8),
  (5, 10, 8),
  (7, 10, 8)],
 [(1, 2, 0),
  (2, 2, 2),
  (3, 2, 4),
  (4, 2, 6),
  (5, 4, 6),
  (6, 4, 8),
  (7, 6, 8),
  (8, 8, 8)],
 [(0, 2, 2),
  (1, 2, 4),
  (3, 2, 4),
  (5, 2, 4),
  (6, 4, 4),
  (8, 4, 4),
  (9, 6, 4),
  (9, 8, 6)],
 [(1, 0, 2),
  (2, 0, 4),
  (3, 2, 4),
  (4, 4, 4),
  (5, 6, 4),
  (6, 8, 4),
  (7, 10, 4),
  (8, 10, 6)],
 [(2, 0, 0),
  (4, 0, 0),
  (4, 2, 2),
  (4, 4, 4),
  (4, 6, 6),
  (4, 8, 8),
  (4, 10, 10),
  (6, 10, 10)],
 [(1, 2, 0),
  (3, 2, 0),
  (4, 2, 2),
  (5, 2, 4),
  (5, 4, 6),
  (6, 4, 8),
  (6, 6, 10),
  (7, 8, 10)],
 [(0, 2, 2),
  (2, 2, 2),
  (4, 2, 2),
  (6, 2, 2),
  (6, 4, 4),
  (8, 4, 4),
  (8, 6, 6),
  (8, 8, 8)],
 [(1, 0, 2),
  (3, 0, 2),
  (4, 2, 2),
  (5, 4, 2),
  (5, 6, 4),
  (6, 8, 4),
  (6, 10, 6),
  (7, 10, 8)],
 [(2, 0, 0),
  (3, 2, 0),
  (3, 4, 2),
  (3, 6, 4),
  (4, 6, 6),
  (4, 8, 8),
  (5, 8, 10),
  (7, 8, 10)],
 [(1, 2, 0),
  (2, 4, 0),
  (3, 4, 2),
  (4, 4, 4),
  (5, 4, 6),
  (6, 4, 8),
  (7, 4, 10),
  (8, 6, 10)],
 [(0, 2, 2),
  (1, 4, 2),
  (3, 4, 2),
  (5, 4, 2),
  (6, 4, 4),
  (8, 4, 4),
  (9, 4, 6),
  (9, 6, 8)],
 [(1, 0, 2),
  (2, 2, 2),
  (3, 4, 2),
  (4, 6, 2),
  (5, 6, 4),
  (6, 8, 4),
  (7, 8, 6),
  (8, 8, 8)],
 [(2, 0, 0),
  (2, 2, 2),
  (2, 4, 4),
  (2, 6, 6),
  (4, 6, 6),
  (4, 8, 8),
  (6, 8, 8),
  (8, 8, 8)],
 [(1, 2, 0),
  (1, 4, 2),
  (2, 4, 4),
  (3, 4, 6),
  (5, 4, 6),
  (6, 4, 8),
  (8, 4, 8),
  (9, 6, 8)],
 [(0, 2, 2),
  (0, 4, 4),
  (2, 4, 4),
  (4, 4, 4),
  (6, 4, 4),
  (8, 4, 4),
  (10, 4, 4),
  (10, 6, 6)],
 [(1, 0, 2),
  (1, 2, 4),
  (2, 4, 4),
  (3, 6, 4),
  (5, 6, 4),
  (6, 8, 4),
  (8, 8, 4),
  (9, 8, 6)],
 [(1, 2, 0),
  (3, 2, 0),
  (4, 2, 2),
  (5, 2, 4),
  (5, 4, 6),
  (6, 4, 8),
  (6, 6, 10),
  (7, 8, 10),
  (8, 8, 12),
  (8, 10, 14),
  (9, 12, 14),
  (10, 14, 14),
  (12, 14, 14)],
 [(0, 2, 2),
  (2, 2, 2),
  (4, 2, 2),
  (6, 2, 2),
  (6, 4, 4),
  (8, 4, 4),
  (8, 6, 6),
  (8, 8, 8),
  (10, 8, 8),
  (10, 10, 10),
  (10, 12, 12),
  (10, 14, 14),
  (12, 14, 14)],
 [(1, 0, 2),
  (3, 0, 2),
  (4, 2, 2),
  (5, 4, 2),
  (5, 6, 4),
  (6, 8, 4),
  (6, 10, 6),
  (7, 10, 8),
  (8, 12, 8),
  (8, 14, 10),
  (9, 14, 12),
  (10, 14, 14),
  (12, 14, 14)],
 [(2, 0, 0),
  (4, 0, 0),
  (4, 2, 2),
  (4, 4, 4),
  (4, 6, 6),
  (4, 8, 8),
  (4, 10, 10),
  (6, 10, 10),
  (6, 12, 12),
  (6, 14, 14),
  (8, 14, 14),
  (10, 14, 14),
  (12, 14, 14)],
 [(1, 2, 0),
  (2, 4, 0),
  (3, 4, 2),
  (4, 4, 4),
  (5, 4, 6),
  (6, 4, 8),
  (7, 4, 10),
  (8, 6, 10),
  (9, 6, 12),
  (10, 6, 14),
  (11, 8, 14),
  (12, 10, 14),
  (13, 12, 14)],
 [(0, 2, 2),
  (1, 4, 2),
  (3, 4, 2),
  (5, 4, 2),
  (6, 4, 4),
  (8, 4, 4),
  (9, 4, 6),
  (9, 6, 8),
  (11, 6, 8),
  (12, 6, 10),
  (12, 8, 12),
  (12, 10, 14),
  (13, 12, 14)],
 [(1, 0, 2),
  (2, 2, 2),
  (3, 4, 2),
  (4, 6, 2),
  (5, 6, 4),
  (6, 8, 4),
  (7, 8, 6),
  (8, 8, 8),
  (9, 10, 8),
  (10, 10, 10),
  (11, 10, 12),
  (12, 10, 14),
  (13, 12, 14)],
 [(2, 0, 0),
  (3, 2, 0),
  (3, 4, 2),
  (3, 6, 4),
  (4, 6, 6),
  (4, 8, 8),
  (5, 8, 10),
  (7, 8, 10),
  (7, 10, 12),
  (8, 10, 14),
  (10, 10, 14),
  (12, 10, 14),
  (13, 12, 14)],
 [(1, 2, 0),
  (1, 4, 2),
  (2, 4, 4),
  (3, 4, 6),
  (5, 4, 6),
  (6, 4, 8),
  (8, 4, 8),
  (9, 6, 8),
  (10, 6, 10),
  (12, 6, 10),
  (13, 8, 10),
  (14, 10, 10),
  (14, 12, 12)],
 [(0, 2, 2),
  (0, 4, 4),
  (2, 4, 4),
  (4, 4, 4),
  (6, 4, 4),
  (8, 4, 4),
  (10, 4, 4),
  (10, 6, 6),
  (12, 6, 6),
  (14, 6, 6),
  (14, 8, 8),
  (14, 10, 10),
  (14, 12, 12)],
 [(1, 0, 2),
  (1, 2, 4),
  (2, 4, 4),
  (3, 6, 4),
  (5, 6, 4),
  (6, 8, 4),
  (8, 8, 4),
  (9, 8, 6),
  (10, 10, 6),
  (12, 10, 6),
  (13, 10, 8),
  (14, 10, 10),
  (14, 12, 12)],
 [(2, 0, 0),
  (2, 2, 2),
  (2, 4, 4),
  (2, 6, 6),
  (4, 6, 6),
  (4, 8, 8),
  (6, 8, 8),
  (8, 8, 8),
  (8, 10, 10),
  (10, 10, 10),
  (12, 10, 10),
  (14, 10, 10),
  (14, 12, 12)],
 [(1, 2, 0),
  (2, 2, 2),
  (3, 2, 4),
  (4, 2, 6),
  (5, 4, 6),
  (6, 4, 8),
  (7, 6, 8),
  (8, 8, 8),
  (9, 8, 10),
  (10, 10, 10),
  (11, 12, 10),
  (12, 14, 10),
  (13, 14, 12)],
 [(0, 2, 2),
  (1, 2, 4),
  (3, 2, 4),
  (5, 2, 4),
  (6, 4, 4),
  (8, 4, 4),
  (9, 6, 4),
  (9, 8, 6),
  (11, 8, 6),
  (12, 10, 6),
  (12, 12, 8),
  (12, 14, 10),
  (13, 14, 12)],
 [(1, 0, 2),
  (2, 0, 4),
  (3, 2, 4),
  (4, 4, 4),
  (5, 6, 4),
  (6, 8, 4),
  (7, 10, 4),
  (8, 10, 6),
  (9, 12, 6),
  (10, 14, 6),
  (11, 14, 8),
  (12, 14, 10),
  (13, 14, 12)],
 [(2, 0, 0),
  (3, 0, 2),
  (3, 2, 4),
  (3, 4, 6),
  (4, 6, 6),
  (4, 8, 8),
  (5, 10, 8),
  (7, 10, 8),
  (7, 12, 10),
  (8, 14, 10),
  (10, 14, 10),
  (12, 14, 10),
  (13, 14, 12)],
 [(0, 2, 2),
  (1, 4, 2),
  (3, 4, 2),
  (5, 4, 2),
  (6, 4, 4),
  (8, 4, 4),
  (9, 4, 6),
  (9, 6, 8),
  (11, 6, 8),
  (12, 6, 10),
  (12, 8, 12),
  (12, 10, 14),
  (13, 12, 14),
  (15, 12, 14),
  (16, 12, 16),
  (16, 14, 18),
  (16, 16, 20),
  (17, 18, 20),
  (17, 20, 22),
  (18, 22, 22),
  (20, 22, 22)],
 [(1, 0, 2),
  (2, 2, 2),
  (3, 4, 2),
  (4, 6, 2),
  (5, 6, 4),
  (6, 8, 4),
  (7, 8, 6),
  (8, 8, 8),
  (9, 10, 8),
  (10, 10, 10),
  (11, 10, 12),
  (12, 10, 14),
  (13, 12, 14),
  (14, 14, 14),
  (15, 14, 16),
  (16, 14, 18),
  (17, 14, 20),
  (18, 16, 20),
  (19, 16, 22),
  (20, 18, 22),
  (21, 20, 22)],
 [(2, 0, 0),
  (3, 2, 0),
  (3, 4, 2),
  (3, 6, 4),
  (4, 6, 6),
  (4, 8, 8),
  (5, 8, 10),
  (7, 8, 10),
  (7, 10, 12),
  (8, 10, 14),
  (10, 10, 14),
  (12, 10, 14),
  (13, 12, 14),
  (13, 14, 16),
  (14, 14, 18),
  (16, 14, 18),
  (18, 14, 18),
  (19, 16, 18),
  (21, 16, 18),
  (22, 18, 18),
  (22, 20, 20)],
 [(1, 2, 0),
  (2, 4, 0),
  (3, 4, 2),
  (4, 4, 4),
  (5, 4, 6),
  (6, 4, 8),
  (7, 4, 10),
  (8, 6, 10),
  (9, 6, 12),
  (10, 6, 14),
  (11, 8, 14),
  (12, 10, 14),
  (13, 12, 14),
  (14, 12, 16),
  (15, 12, 18),
  (16, 14, 18),
  (17, 16, 18),
  (18, 18, 18),
  (19, 20, 18),
  (20, 22, 18),
  (21, 22, 20)],
 [(0, 2, 2),
  (0, 4, 4),
  (2, 4, 4),
  (4, 4, 4),
  (6, 4, 4),
  (8, 4, 4),
  (10, 4, 4),
  (10, 6, 6),
  (12, 6, 6),
  (14, 6, 6),
  (14, 8, 8),
  (14, 10, 10),
  (14, 12, 12),
  (16, 12, 12),
  (18, 12, 12),
  (18, 14, 14),
  (18, 16, 16),
  (18, 18, 18),
  (18, 20, 20),
  (18, 22, 22),
  (20, 22, 22)],
 [(1, 0, 2),
  (1, 2, 4),
  (2, 4, 4),
  (3, 6, 4),
  (5, 6, 4),
  (6, 8, 4),
  (8, 8, 4),
  (9, 8, 6),
  (10, 10, 6),
  (12, 10, 6),
  (13, 10, 8),
  (14, 10, 10),
  (14, 12, 12),
  (15, 14, 12),
  (17, 14, 12),
  (18, 14, 14),
  (19, 14, 16),
  (19, 16, 18),
  (20, 16, 20),
  (20, 18, 22),
  (21, 20, 22)],
 [(2, 0, 0),
  (2, 2, 2),
  (2, 4, 4),
  (2, 6, 6),
  (4, 6, 6),
  (4, 8, 8),
  (6, 8, 8),
  (8, 8, 8),
  (8, 10, 10),
  (10, 10, 10),
  (12, 10, 10),
  (14, 10, 10),
  (14, 12, 12),
  (14, 14, 14),
  (16, 14, 14),
  (18, 14, 14),
  (20, 14, 14),
  (20, 16, 16),
  (22, 16, 16),
  (22, 18, 18),
  (22, 20, 20)],
 [(1, 2, 0),
  (1, 4, 2),
  (2, 4, 4),
  (3, 4, 6),
  (5, 4, 6),
  (6, 4, 8),
  (8, 4, 8),
  (9, 6, 8),
  (10, 6, 10),
  (12, 6, 10),
  (13, 8, 10),
  (14, 10, 10),
  (14, 12, 12),
  (15, 12, 14),
  (17, 12, 14),
  (18, 14, 14),
  (19, 16, 14),
  (19, 18, 16),
  (20, 20, 16),
  (20, 22, 18),
  (21, 22, 20)],
 [(0, 2, 2),
  (1, 2, 4),
  (3, 2, 4),
  (5, 2, 4),
  (6, 4, 4),
  (8, 4, 4),
  (9, 6, 4),
  (9, 8, 6),
  (11, 8, 6),
  (12, 10, 6),
  (12, 12, 8),
  (12, 14, 10),
  (13, 14, 12),
  (15, 14, 12),
  (16, 16, 12),
  (16, 18, 14),
  (16, 20, 16),
  (17, 20, 18),
  (17, 22, 20),
  (18, 22, 22),
  (20, 22, 22)],
 [(1, 0, 2),
  (2, 0, 4),
  (3, 2, 4),
  (4, 4, 4),
  (5, 6, 4),
  (6, 8, 4),
  (7, 10, 4),
  (8, 10, 6),
  (9, 12, 6),
  (10, 14, 6),
  (11, 14, 8),
  (12, 14, 10),
  (13, 14, 12),
  (14, 16, 12),
  (15, 18, 12),
  (16, 18, 14),
  (17, 18, 16),
  (18, 18, 18),
  (19, 18, 20),
  (20, 18, 22),
  (21, 20, 22)],
 [(2, 0, 0),
  (3, 0, 2),
  (3, 2, 4),
  (3, 4, 6),
  (4, 6, 6),
  (4, 8, 8),
  (5, 10, 8),
  (7, 10, 8),
  (7, 12, 10),
  (8, 14, 10),
  (10, 14, 10),
  (12, 14, 10),
  (13, 14, 12),
  (13, 16, 14),
  (14, 18, 14),
  (16, 18, 14),
  (18, 18, 14),
  (19, 18, 16),
  (21, 18, 16),
  (22, 18, 18),
  (22, 20, 20)],
 [(1, 2, 0),
  (2, 2, 2),
  (3, 2, 4),
  (4, 2, 6),
  (5, 4, 6),
  (6, 4, 8),
  (7, 6, 8),
  (8, 8, 8),
  (9, 8, 10),
  (10, 10, 10),
  (11, 12, 10),
  (12, 14, 10),
  (13, 14, 12),
  (14, 14, 14),
  (15, 16, 14),
  (16, 18, 14),
  (17, 20, 14),
  (18, 20, 16),
  (19, 22, 16),
  (20, 22, 18),
  (21, 22, 20)],
 [(0, 2, 2),
  (2, 2, 2),
  (4, 2, 2),
  (6, 2, 2),
  (6, 4, 4),
  (8, 4, 4),
  (8, 6, 6),
  (8, 8, 8),
  (10, 8, 8),
  (10, 10, 10),
  (10, 12, 12),
  (10, 14, 14),
  (12, 14, 14),
  (14, 14, 14),
  (14, 16, 16),
  (14, 18, 18),
  (14, 20, 20),
  (16, 20, 20),
  (16, 22, 22),
  (18, 22, 22),
  (20, 22, 22)],
 [(1, 0, 2),
  (3, 0, 2),
  (4, 2, 2),
  (5, 4, 2),
  (5, 6, 4),
  (6, 8, 4),
  (6, 10, 6),
  (7, 10, 8),
  (8, 12, 8),
  (8, 14, 10),
  (9, 14, 12),
  (10, 14, 14),
  (12, 14, 14),
  (13, 16, 14),
  (13, 18, 16),
  (14, 18, 18),
  (15, 18, 20),
  (17, 18, 20),
  (18, 18, 22),
  (20, 18, 22),
  (21, 20, 22)],
 [(2, 0, 0),
  (4, 0, 0),
  (4, 2, 2),
  (4, 4, 4),
  (4, 6, 6),
  (4, 8, 8),
  (4, 10, 10),
  (6, 10, 10),
  (6, 12, 12),
  (6, 14, 14),
  (8, 14, 14),
  (10, 14, 14),
  (12, 14, 14),
  (12, 16, 16),
  (12, 18, 18),
  (14, 18, 18),
  (16, 18, 18),
  (18, 18, 18),
  (20, 18, 18),
  (22, 18, 18),
  (22, 20, 20)],
 [(1, 2, 0),
  (3, 2, 0),
  (4, 2, 2),
  (5, 2, 4),
  (5, 4, 6),
  (6, 4, 8),
  (6, 6, 10),
  (7, 8, 10),
  (8, 8, 12),
  (8, 10, 14),
  (9, 12, 14),
  (10, 14, 14),
  (12, 14, 14),
  (13, 14, 16),
  (13, 16, 18),
  (14, 18, 18),
  (15, 20, 18),
  (17, 20, 18),
  (18, 22, 18),
  (20, 22, 18),
  (21, 22, 20)]]
noncomputable def tabN (n f s : Nat) : List (Nat × Nat × Nat) := tabs.getD (n * 16 + f * 4 + s) []
noncomputable def agesTab : List (List Int) := [[3, 2, 1, 1, 0],
 [4, 2, 2, 2, 0],
 [5, 2, 3, 3, 0],
 [6, 2, 4, 4, 0],
 [3, 3, 1, 1, 1],
 [4, 3, 2, 2, 1],
 [5, 3, 3, 3, 1],
 [6, 3, 4, 4, 1],
 [3, 4, 1, 1, 2],
 [4, 4, 2, 2, 2],
 [5, 4, 3, 3, 2],
 [6, 4, 4, 4, 2],
 [3, 5, 1, 1, 3],
 [4, 5, 2, 2, 3],
 [5, 5, 3, 3, 3],
 [6, 5, 4, 4, 3],
 [4, 3, 2, 2, 1, 2, 1, 0],
 [5, 3, 3, 3, 1, 3, 1, 1],
 [6, 3, 4, 4, 1, 4, 1, 2],
 [7, 3, 5, 5, 1, 5, 1, 3],
 [4, 4, 2, 2, 2, 2, 2, 0],
 [5, 4, 3, 3, 2, 3, 2, 1],
 [6, 4, 4, 4, 2, 4, 2, 2],
 [7, 4, 5, 5, 2, 5, 2, 3],
 [4, 5, 2, 2, 3, 2, 3, 0],
 [5, 5, 3, 3, 3, 3, 3, 1],
 [6, 5, 4, 4, 3, 4, 3, 2],
 [7, 5, 5, 5, 3, 5, 3, 3],
 [4, 6, 2, 2, 4, 2, 4, 0],
 [5, 6, 3, 3, 4, 3, 4, 1],
 [6, 6, 4, 4, 4, 4, 4, 2],
 [7, 6, 5, 5, 4, 5, 4, 3],
 [5, 4, 3, 3, 2, 3, 2, 1, 3, 2, 1, 1, 0],
 [6, 4, 4, 4, 2, 4, 2, 2, 4, 2, 2, 2, 0],
 [7, 4, 5, 5, 2, 5, 2, 3, 5, 2, 3, 3, 0],
 [8, 4, 6, 6, 2, 6, 2, 4, 6, 2, 4, 4, 0],
 [5, 5, 3, 3, 3, 3, 3, 1, 3, 3, 1, 1, 1],
 [6, 5, 4, 4, 3, 4, 3, 2, 4, 3, 2, 2, 1],
 [7, 5, 5, 5, 3, 5, 3, 3, 5, 3, 3, 3, 1],
 [8, 5, 6, 6, 3, 6, 3, 4, 6, 3, 4, 4, 1],
 [5, 6, 3, 3, 4, 3, 4, 1, 3, 4, 1, 1, 2],
 [6, 6, 4, 4, 4, 4, 4, 2, 4, 4, 2, 2, 2],
 [7, 6, 5, 5, 4, 5, 4, 3, 5, 4, 3, 3, 2],
 [8, 6, 6, 6, 4, 6, 4, 4, 6, 4, 4, 4, 2],
 [5, 7, 3, 3, 5, 3, 5, 1, 3, 5, 1, 1, 3],
 [6, 7, 4, 4, 5, 4, 5, 2, 4, 5, 2, 2, 3],
 [7, 7, 5, 5, 5, 5, 5, 3, 5, 5, 3, 3, 3],
 [8, 7, 6, 6, 5, 6, 5, 4, 6, 5, 4, 4, 3],
 [6, 5, 4, 4, 3, 4, 3, 2, 4, 3, 2, 2, 1, 4, 3, 2, 2, 1, 2, 1, 0],
 [7, 5, 5, 5, 3, 5, 3, 3, 5, 3, 3, 3, 1, 5, 3, 3, 3, 1, 3, 1, 1],
 [8, 5, 6, 6, 3, 6, 3, 4, 6, 3, 4, 4, 1, 6, 3, 4, 4, 1, 4, 1, 2],
 [9, 5, 7, 7, 3, 7, 3, 5, 7, 3, 5, 5, 1, 7, 3, 5, 5, 1, 5, 1, 3],
 [6, 6, 4, 4, 4, 4, 4, 2, 4, 4, 2, 2, 2, 4, 4, 2, 2, 2, 2, 2, 0],
 [7, 6, 5, 5, 4, 5, 4, 3, 5, 4, 3, 3, 2, 5, 4, 3, 3, 2, 3, 2, 1],
 [8, 6, 6, 6, 4, 6, 4, 4, 6, 4, 4, 4, 2, 6, 4, 4, 4, 2, 4, 2, 2],
 [9, 6, 7, 7, 4, 7, 4, 5, 7, 4, 5, 5, 2, 7, 4, 5, 5, 2, 5, 2, 3],
 [6, 7, 4, 4, 5, 4, 5, 2, 4, 5, 2, 2, 3, 4, 5, 2, 2, 3, 2, 3, 0],
 [7, 7, 5, 5, 5, 5, 5, 3, 5, 5, 3, 3, 3, 5, 5, 3, 3, 3, 3, 3, 1],
 [8, 7, 6, 6, 5, 6, 5, 4, 6, 5, 4, 4, 3, 6, 5, 4, 4, 3, 4, 3, 2],
 [9, 7, 7, 7, 5, 7, 5, 5, 7, 5, 5, 5, 3, 7, 5, 5, 5, 3, 5, 3, 3],
 [6, 8, 4, 4, 6, 4, 6, 2, 4, 6, 2, 2, 4, 4, 6, 2, 2, 4, 2, 4, 0],
 [7, 8, 5, 5, 6, 5, 6, 3, 5, 6, 3, 3, 4, 5, 6, 3, 3, 4, 3, 4, 1],
 [8, 8, 6, 6, 6, 6, 6, 4, 6, 6, 4, 4, 4, 6, 6, 4, 4, 4, 4, 4, 2],
 [9, 8, 7, 7, 6, 7, 6, 5, 7, 6, 5, 5, 4, 7, 6, 5, 5, 4, 5, 4, 3]]
noncomputable def agesN (n f s : Nat) : List Int := agesTab.getD (n * 16 + f * 4 + s) []
theorem pure8_c0 : ∀ f, f < 4 → ∀ s, s < 4 → ages0 4 f s = agesN 0 f s := by decide +kernel
theorem pure8_c1 : ∀ f, f < 4 → ∀ s, s < 4 → ages0 5 f s = agesN 1 f s := by decide +kernel
theorem pure8_c2 : ∀ f, f < 4 → ∀ s, s < 4 → ages0 6 f s = agesN 2 f s := by decide +kernel
theorem pure8_c3 : ∀ f, f < 4 → ∀ s, s < 4 → ages0 7 f s = agesN 3 f s := by decide +kernel
theorem pure8 : ∀ n, n < 4 → ∀ f, f < 4 → ∀ s, s < 4 → ages0 (n + 4) f s = agesN n f s
  | 0, _ => pure8_c0
  | 1, _ => pure8_c1
  | 2, _ => pure8_c2
  | 3, _ => pure8_c3
  | k + 4, h => absurd h (by omega)
end Mine
end S_Z3
section S_Z4
open PySem PySem.W PyProof.Rows
set_option exponentiation.threshold 2000
set_option maxRecDepth 100000
set_option maxHeartbeats 8000000
namespace Mine
noncomputable def mixOne (t : Nat × Nat × Nat) : UInt64 × UInt64 × UInt64 := rgbF (part (half t.1)) (part (half t.2.1)) (part (half t.2.2))
noncomputable def okOne (t : Nat × Nat × Nat) : Bool := rgbOk (part (half t.1)) (part (half t.2.1)) (part (half t.2.2))
noncomputable def stepM (ns : List Int) : List (Nat × Nat × Nat) → Nat → List (UInt64 × UInt64 × UInt64) → Bool
  | [], _, [] => true
  | [], _, _ :: _ => false
  | t :: tr, i, ms => if (i : Int) + 1 ∈ ns then (match ms with
      | m :: mr => okOne t && (mixOne t == m) && stepM ns tr (i + 1) mr
      | [] => false) else stepM ns tr (i + 1) ms
theorem stepM_ok (ag ns : List Int) (tab : List (Nat × Nat × Nat)) (H : ∀ i, i < tab.length → sumT ag (i + 1) = trip (tab.getD i (0, 0, 0))) :
    ∀ (r : List (Nat × Nat × Nat)) (k : Nat) (ms : List (UInt64 × UInt64 × UInt64)), tab.drop k = r → stepM ns r k ms = true →
      mixT ag ns (k + r.length) = mixT ag ns k ++ ms ∧ ∀ i, k ≤ i → i < k + r.length → (i : Int) + 1 ∈ ns → mixOk ag (i + 1) = true
  | [], k, [], _, _ => ⟨by simp, fun i h1 h2 => absurd h2 (by simp only [List.length_nil]; omega)⟩
  | [], k, m :: ms, _, h => by simp [stepM] at h
  | t :: tr, k, ms, hd, h => by
    have hk : k < tab.length := by
      rcases Nat.lt_or_ge k tab.length with h1 | h1
      · exact h1
      · rw [List.drop_eq_nil_of_le h1] at hd; cases hd
    have et : sumT ag (k + 1) = trip t := by
      rw [H k hk]
      have := congrArg List.head? hd
      rw [List.head?_drop] at this
      simp [List.getD, this]
    have hd2 : tab.drop (k + 1) = tr := by rw [← List.drop_drop, hd]; rfl
    have e1 : k + (t :: tr).length = k + 1 + tr.length := by simp only [List.length_cons]; omega
    by_cases hm : (k : Int) + 1 ∈ ns
    · cases ms with
      | nil => simp only [stepM, if_pos hm] at h; cases h
      | cons m mr =>
        simp only [stepM, if_pos hm] at h
        have h1 := Bool.and_eq_true_iff.mp h
        have h2 := Bool.and_eq_true_iff.mp h1.1
        have h3 : mixOne t = m := eq_of_beq h2.2
        obtain ⟨g1, g2⟩ := stepM_ok ag ns tab H tr (k + 1) mr hd2 h1.2
        rw [e1]
        refine ⟨?_, fun i q1 q2 q3 => ?_⟩
        · rw [g1, mixT_yes hm]
          have : mixAt ag (k + 1) = m := by
            rw [← h3]
            unfold mixAt
            rw [et]
            rfl
          rw [this]; simp
        · rcases Nat.eq_or_lt_of_le q1 with q | q
          · subst q
            have h4 : okOne t = true := h2.1
            unfold mixOk
            rw [et]
            exact h4
          · exact g2 i q q2 q3
    · simp only [stepM, if_neg hm] at h
      obtain ⟨g1, g2⟩ := stepM_ok ag ns tab H tr (k + 1) ms hd2 h
      rw [e1]
      refine ⟨?_, fun i q1 q2 q3 => ?_⟩
      · rw [g1, mixT_no hm]
      · rcases Nat.eq_or_lt_of_le q1 with q | q
        · subst q; exact absurd q3 hm
        · exact g2 i q q2 q3
noncomputable def mixTab : List (List (UInt64 × UInt64 × UInt64)) := [[(4604930618986332160, 4607182418800017408, 4584664420663164928),
  (4603679619089840356, 4604930618986332160, 4589168020290535424),
  (4602678819172646912, 4602678819172646912, 4589168020290535424),
  (4598175219545276416, 4599676419421066581, 4591419820104220672)],
 [(0, 4607182418800017408, 4584664420663164928),
  (0, 0, 4584664420663164928),
  (4602678819172646912, 4602678819172646912, 4589168020290535424),
  (4602678819172646912, 4599676419421066581, 4591419820104220672)],
 [(4598175219545276416, 4607182418800017408, 4584664420663164928),
  (4600677219338260025, 4604930618986332160, 4589168020290535424),
  (4602678819172646912, 4602678819172646912, 4589168020290535424),
  (4604930618986332160, 4599676419421066581, 4591419820104220672)],
 [(4602678819172646912, 4607182418800017408, 4584664420663164928),
  (4602678819172646912, 4607182418800017408, 4589168020290535424),
  (4602678819172646912, 4602678819172646912, 4589168020290535424),
  (0, 4599676419421066581, 4591419820104220672)],
 [(4604930618986332160, 4607182418800017408, 4584664420663164928),
  (4604930618986332160, 4607182418800017408, 4589168020290535424),
  (4604930618986332160, 4602678819172646912, 4589168020290535424),
  (4598175219545276416, 4599676419421066581, 4591419820104220672)],
 [(0, 4607182418800017408, 4584664420663164928),
  (4606181618882823964, 4607182418800017408, 4586916220476850176),
  (4604930618986332160, 4602678819172646912, 4589168020290535424),
  (4602678819172646912, 4599676419421066581, 4591419820104220672)],
 [(4598175219545276416, 4607182418800017408, 4584664420663164928),
  (0, 0, 4584664420663164928),
  (4604930618986332160, 4602678819172646912, 4589168020290535424),
  (4604930618986332160, 4599676419421066581, 4591419820104220672)],
 [(4602678819172646912, 4607182418800017408, 4584664420663164928),
  (4603679619089840356, 4604930618986332160, 4589168020290535424),
  (4604930618986332160, 4602678819172646912, 4589168020290535424),
  (0, 4599676419421066581, 4591419820104220672)],
 [(4604930618986332160, 4607182418800017408, 4584664420663164928),
  (4606181618882823964, 4607182418800017408, 4586916220476850176),
  (0, 4602678819172646912, 4589168020290535424),
  (4598175219545276416, 4599676419421066581, 4591419820104220672)],
 [(0, 4607182418800017408, 4584664420663164928),
  (0, 4607182418800017408, 4589168020290535424),
  (0, 4602678819172646912, 4589168020290535424),
  (4602678819172646912, 4599676419421066581, 4591419820104220672)],
 [(4598175219545276416, 4607182418800017408, 4584664420663164928),
  (4592670820000712477, 4607182418800017408, 4586916220476850176),
  (0, 4602678819172646912, 4589168020290535424),
  (4604930618986332160, 4599676419421066581, 4591419820104220672)],
 [(4602678819172646912, 4607182418800017408, 4584664420663164928),
  (0, 0, 4584664420663164928),
  (0, 4602678819172646912, 4589168020290535424),
  (0, 4599676419421066581, 4591419820104220672)],
 [(4604930618986332160, 4607182418800017408, 4584664420663164928),
  (0, 0, 4584664420663164928),
  (4598175219545276416, 4602678819172646912, 4589168020290535424),
  (4598175219545276416, 4599676419421066581, 4591419820104220672)],
 [(0, 4607182418800017408, 4584664420663164928),
  (4592670820000712477, 4607182418800017408, 4586916220476850176),
  (4598175219545276416, 4602678819172646912, 4589168020290535424),
  (4602678819172646912, 4599676419421066581, 4591419820104220672)],
 [(4598175219545276416, 4607182418800017408, 4584664420663164928),
  (4598175219545276416, 4607182418800017408, 4589168020290535424),
  (4598175219545276416, 4602678819172646912, 4589168020290535424),
  (4604930618986332160, 4599676419421066581, 4591419820104220672)],
 [(4602678819172646912, 4607182418800017408, 4584664420663164928),
  (4600677219338260025, 4604930618986332160, 4589168020290535424),
  (4598175219545276416, 4602678819172646912, 4589168020290535424),
  (0, 4599676419421066581, 4591419820104220672)],
 [(0, 4607182418800017408, 4584664420663164928),
  (4606181618882823964, 4607182418800017408, 4586916220476850176),
  (4604930618986332160, 4602678819172646912, 4589168020290535424),
  (4602678819172646912, 4599676419421066581, 4591419820104220672),
  (4600677219338260025, 4599075939470750515, 4594797519824748544)],
 [(4598175219545276416, 4607182418800017408, 4584664420663164928),
  (0, 0, 4584664420663164928),
  (4604930618986332160, 4602678819172646912, 4589168020290535424),
  (4604930618986332160, 4599676419421066581, 4591419820104220672),
  (0, 0, 4593671619917905920)],
 [(4602678819172646912, 4607182418800017408, 4584664420663164928),
  (4603679619089840356, 4604930618986332160, 4589168020290535424),
  (4604930618986332160, 4602678819172646912, 4589168020290535424),
  (0, 4599676419421066581, 4591419820104220672),
  (4592670820000712477, 4599676419421066581, 4594234569871327232)],
 [(4604930618986332160, 4607182418800017408, 4584664420663164928),
  (4604930618986332160, 4607182418800017408, 4589168020290535424),
  (4604930618986332160, 4602678819172646912, 4589168020290535424),
  (4598175219545276416, 4599676419421066581, 4591419820104220672),
  (4598175219545276416, 4600877379321698714, 4594797519824748544)],
 [(0, 4607182418800017408, 4584664420663164928),
  (0, 4607182418800017408, 4589168020290535424),
  (0, 4602678819172646912, 4589168020290535424),
  (4602678819172646912, 4599676419421066581, 4591419820104220672),
  (4602678819172646912, 4600877379321698714, 4594797519824748544)],
 [(4598175219545276416, 4607182418800017408, 4584664420663164928),
  (4592670820000712477, 4607182418800017408, 4586916220476850176),
  (0, 4602678819172646912, 4589168020290535424),
  (4604930618986332160, 4599676419421066581, 4591419820104220672),
  (4603679619089840356, 4599075939470750515, 4594797519824748544)],
 [(4602678819172646912, 4607182418800017408, 4584664420663164928),
  (0, 0, 4584664420663164928),
  (0, 4602678819172646912, 4589168020290535424),
  (0, 4599676419421066581, 4591419820104220672),
  (0, 0, 4593671619917905920)],
 [(4604930618986332160, 4607182418800017408, 4584664420663164928),
  (4606181618882823964, 4607182418800017408, 4586916220476850176),
  (0, 4602678819172646912, 4589168020290535424),
  (4598175219545276416, 4599676419421066581, 4591419820104220672),
  (4600677219338260025, 4599075939470750515, 4594797519824748544)],
 [(0, 4607182418800017408, 4584664420663164928),
  (4592670820000712477, 4607182418800017408, 4586916220476850176),
  (4598175219545276416, 4602678819172646912, 4589168020290535424),
  (4602678819172646912, 4599676419421066581, 4591419820104220672),
  (4603679619089840356, 4599075939470750515, 4594797519824748544)],
 [(4598175219545276416, 4607182418800017408, 4584664420663164928),
  (4598175219545276416, 4607182418800017408, 4589168020290535424),
  (4598175219545276416, 4602678819172646912, 4589168020290535424),
  (4604930618986332160, 4599676419421066581, 4591419820104220672),
  (4604930618986332160, 4600877379321698714, 4594797519824748544)],
 [(4602678819172646912, 4607182418800017408, 4584664420663164928),
  (4600677219338260025, 4604930618986332160, 4589168020290535424),
  (4598175219545276416, 4602678819172646912, 4589168020290535424),
  (0, 4599676419421066581, 4591419820104220672),
  (4606181618882823964, 4599676419421066581, 4594234569871327232)],
 [(4604930618986332160, 4607182418800017408, 4584664420663164928),
  (0, 0, 4584664420663164928),
  (4598175219545276416, 4602678819172646912, 4589168020290535424),
  (4598175219545276416, 4599676419421066581, 4591419820104220672),
  (0, 0, 4593671619917905920)],
 [(0, 4607182418800017408, 4584664420663164928),
  (0, 0, 4584664420663164928),
  (4602678819172646912, 4602678819172646912, 4589168020290535424),
  (4602678819172646912, 4599676419421066581, 4591419820104220672),
  (0, 0, 4593671619917905920)],
 [(4598175219545276416, 4607182418800017408, 4584664420663164928),
  (4600677219338260025, 4604930618986332160, 4589168020290535424),
  (4602678819172646912, 4602678819172646912, 4589168020290535424),
  (4604930618986332160, 4599676419421066581, 4591419820104220672),
  (4606181618882823964, 4599676419421066581, 4594234569871327232)],
 [(4602678819172646912, 4607182418800017408, 4584664420663164928),
  (4602678819172646912, 4607182418800017408, 4589168020290535424),
  (4602678819172646912, 4602678819172646912, 4589168020290535424),
  (0, 4599676419421066581, 4591419820104220672),
  (0, 4600877379321698714, 4594797519824748544)],
 [(4604930618986332160, 4607182418800017408, 4584664420663164928),
  (4603679619089840356, 4604930618986332160, 4589168020290535424),
  (4602678819172646912, 4602678819172646912, 4589168020290535424),
  (4598175219545276416, 4599676419421066581, 4591419820104220672),
  (4592670820000712477, 4599676419421066581, 4594234569871327232)],
 [(4598175219545276416, 4607182418800017408, 4584664420663164928),
  (4592670820000712477, 4607182418800017408, 4586916220476850176),
  (0, 4602678819172646912, 4589168020290535424),
  (4604930618986332160, 4599676419421066581, 4591419820104220672),
  (4603679619089840356, 4599075939470750515, 4594797519824748544),
  (4602678819172646912, 4594314991293244562, 4597049319638433792)],
 [(4602678819172646912, 4607182418800017408, 4584664420663164928),
  (0, 0, 4584664420663164928),
  (0, 4602678819172646912, 4589168020290535424),
  (0, 4599676419421066581, 4591419820104220672),
  (0, 0, 4593671619917905920),
  (4602678819172646912, 4594314991293244562, 4597049319638433792)],
 [(4604930618986332160, 4607182418800017408, 4584664420663164928),
  (4606181618882823964, 4607182418800017408, 4586916220476850176),
  (0, 4602678819172646912, 4589168020290535424),
  (4598175219545276416, 4599676419421066581, 4591419820104220672),
  (4600677219338260025, 4599075939470750515, 4594797519824748544),
  (4602678819172646912, 4594314991293244562, 4597049319638433792)],
 [(0, 4607182418800017408, 4584664420663164928),
  (0, 4607182418800017408, 4589168020290535424),
  (0, 4602678819172646912, 4589168020290535424),
  (4602678819172646912, 4599676419421066581, 4591419820104220672),
  (4602678819172646912, 4600877379321698714, 4594797519824748544),
  (4602678819172646912, 4594314991293244562, 4597049319638433792)],
 [(4598175219545276416, 4607182418800017408, 4584664420663164928),
  (4598175219545276416, 4607182418800017408, 4589168020290535424),
  (4598175219545276416, 4602678819172646912, 4589168020290535424),
  (4604930618986332160, 4599676419421066581, 4591419820104220672),
  (4604930618986332160, 4600877379321698714, 4594797519824748544),
  (4604930618986332160, 4594314991293244562, 4597049319638433792)],
 [(4602678819172646912, 4607182418800017408, 4584664420663164928),
  (4600677219338260025, 4604930618986332160, 4589168020290535424),
  (4598175219545276416, 4602678819172646912, 4589168020290535424),
  (0, 4599676419421066581, 4591419820104220672),
  (4606181618882823964, 4599676419421066581, 4594234569871327232),
  (4604930618986332160, 4594314991293244562, 4597049319638433792)],
 [(4604930618986332160, 4607182418800017408, 4584664420663164928),
  (0, 0, 4584664420663164928),
  (4598175219545276416, 4602678819172646912, 4589168020290535424),
  (4598175219545276416, 4599676419421066581, 4591419820104220672),
  (0, 0, 4593671619917905920),
  (4604930618986332160, 4594314991293244562, 4597049319638433792)],
 [(0, 4607182418800017408, 4584664420663164928),
  (4592670820000712477, 4607182418800017408, 4586916220476850176),
  (4598175219545276416, 4602678819172646912, 4589168020290535424),
  (4602678819172646912, 4599676419421066581, 4591419820104220672),
  (4603679619089840356, 4599075939470750515, 4594797519824748544),
  (4604930618986332160, 4594314991293244562, 4597049319638433792)],
 [(4598175219545276416, 4607182418800017408, 4584664420663164928),
  (4600677219338260025, 4604930618986332160, 4589168020290535424),
  (4602678819172646912, 4602678819172646912, 4589168020290535424),
  (4604930618986332160, 4599676419421066581, 4591419820104220672),
  (4606181618882823964, 4599676419421066581, 4594234569871327232),
  (0, 4594314991293244562, 4597049319638433792)],
 [(4602678819172646912, 4607182418800017408, 4584664420663164928),
  (4602678819172646912, 4607182418800017408, 4589168020290535424),
  (4602678819172646912, 4602678819172646912, 4589168020290535424),
  (0, 4599676419421066581, 4591419820104220672),
  (0, 4600877379321698714, 4594797519824748544),
  (0, 4594314991293244562, 4597049319638433792)],
 [(4604930618986332160, 4607182418800017408, 4584664420663164928),
  (4603679619089840356, 4604930618986332160, 4589168020290535424),
  (4602678819172646912, 4602678819172646912, 4589168020290535424),
  (4598175219545276416, 4599676419421066581, 4591419820104220672),
  (4592670820000712477, 4599676419421066581, 4594234569871327232),
  (0, 4594314991293244562, 4597049319638433792)],
 [(0, 4607182418800017408, 4584664420663164928),
  (0, 0, 4584664420663164928),
  (4602678819172646912, 4602678819172646912, 4589168020290535424),
  (4602678819172646912, 4599676419421066581, 4591419820104220672),
  (0, 0, 4593671619917905920),
  (0, 4594314991293244562, 4597049319638433792)],
 [(4598175219545276416, 4607182418800017408, 4584664420663164928),
  (0, 0, 4584664420663164928),
  (4604930618986332160, 4602678819172646912, 4589168020290535424),
  (4604930618986332160, 4599676419421066581, 4591419820104220672),
  (0, 0, 4593671619917905920),
  (4598175219545276416, 4594314991293244562, 4597049319638433792)],
 [(4602678819172646912, 4607182418800017408, 4584664420663164928),
  (4603679619089840356, 4604930618986332160, 4589168020290535424),
  (4604930618986332160, 4602678819172646912, 4589168020290535424),
  (0, 4599676419421066581, 4591419820104220672),
  (4592670820000712477, 4599676419421066581, 4594234569871327232),
  (4598175219545276416, 4594314991293244562, 4597049319638433792)],
 [(4604930618986332160, 4607182418800017408, 4584664420663164928),
  (4604930618986332160, 4607182418800017408, 4589168020290535424),
  (4604930618986332160, 4602678819172646912, 4589168020290535424),
  (4598175219545276416, 4599676419421066581, 4591419820104220672),
  (4598175219545276416, 4600877379321698714, 4594797519824748544),
  (4598175219545276416, 4594314991293244562, 4597049319638433792)],
 [(0, 4607182418800017408, 4584664420663164928),
  (4606181618882823964, 4607182418800017408, 4586916220476850176),
  (4604930618986332160, 4602678819172646912, 4589168020290535424),
  (4602678819172646912, 4599676419421066581, 4591419820104220672),
  (4600677219338260025, 4599075939470750515, 4594797519824748544),
  (4598175219545276416, 4594314991293244562, 4597049319638433792)],
 [(4602678819172646912, 4607182418800017408, 4584664420663164928),
  (4600677219338260025, 4604930618986332160, 4589168020290535424),
  (4598175219545276416, 4602678819172646912, 4589168020290535424),
  (0, 4599676419421066581, 4591419820104220672),
  (4606181618882823964, 4599676419421066581, 4594234569871327232),
  (4604930618986332160, 4594314991293244562, 4597049319638433792),
  (4602678819172646912, 4591215111030249286, 4599864069405540352)],
 [(4604930618986332160, 4607182418800017408, 4584664420663164928),
  (0, 0, 4584664420663164928),
  (4598175219545276416, 4602678819172646912, 4589168020290535424),
  (4598175219545276416, 4599676419421066581, 4591419820104220672),
  (0, 0, 4593671619917905920),
  (4604930618986332160, 4594314991293244562, 4597049319638433792),
  (4604930618986332160, 4591215111030249286, 4599864069405540352)],
 [(0, 4607182418800017408, 4584664420663164928),
  (4592670820000712477, 4607182418800017408, 4586916220476850176),
  (4598175219545276416, 4602678819172646912, 4589168020290535424),
  (4602678819172646912, 4599676419421066581, 4591419820104220672),
  (4603679619089840356, 4599075939470750515, 4594797519824748544),
  (4604930618986332160, 4594314991293244562, 4597049319638433792),
  (0, 4591215111030249286, 4599864069405540352)],
 [(4598175219545276416, 4607182418800017408, 4584664420663164928),
  (4598175219545276416, 4607182418800017408, 4589168020290535424),
  (4598175219545276416, 4602678819172646912, 4589168020290535424),
  (4604930618986332160, 4599676419421066581, 4591419820104220672),
  (4604930618986332160, 4600877379321698714, 4594797519824748544),
  (4604930618986332160, 4594314991293244562, 4597049319638433792),
  (4598175219545276416, 4591215111030249286, 4599864069405540352)],
 [(4602678819172646912, 4607182418800017408, 4584664420663164928),
  (4602678819172646912, 4607182418800017408, 4589168020290535424),
  (4602678819172646912, 4602678819172646912, 4589168020290535424),
  (0, 4599676419421066581, 4591419820104220672),
  (0, 4600877379321698714, 4594797519824748544),
  (0, 4594314991293244562, 4597049319638433792),
  (4602678819172646912, 4591215111030249286, 4599864069405540352)],
 [(4604930618986332160, 4607182418800017408, 4584664420663164928),
  (4603679619089840356, 4604930618986332160, 4589168020290535424),
  (4602678819172646912, 4602678819172646912, 4589168020290535424),
  (4598175219545276416, 4599676419421066581, 4591419820104220672),
  (4592670820000712477, 4599676419421066581, 4594234569871327232),
  (0, 4594314991293244562, 4597049319638433792),
  (4604930618986332160, 4591215111030249286, 4599864069405540352)],
 [(0, 4607182418800017408, 4584664420663164928),
  (0, 0, 4584664420663164928),
  (4602678819172646912, 4602678819172646912, 4589168020290535424),
  (4602678819172646912, 4599676419421066581, 4591419820104220672),
  (0, 0, 4593671619917905920),
  (0, 4594314991293244562, 4597049319638433792),
  (0, 4591215111030249286, 4599864069405540352)],
 [(4598175219545276416, 4607182418800017408, 4584664420663164928),
  (4600677219338260025, 4604930618986332160, 4589168020290535424),
  (4602678819172646912, 4602678819172646912, 4589168020290535424),
  (4604930618986332160, 4599676419421066581, 4591419820104220672),
  (4606181618882823964, 4599676419421066581, 4594234569871327232),
  (0, 4594314991293244562, 4597049319638433792),
  (4598175219545276416, 4591215111030249286, 4599864069405540352)],
 [(4602678819172646912, 4607182418800017408, 4584664420663164928),
  (4603679619089840356, 4604930618986332160, 4589168020290535424),
  (4604930618986332160, 4602678819172646912, 4589168020290535424),
  (0, 4599676419421066581, 4591419820104220672),
  (4592670820000712477, 4599676419421066581, 4594234569871327232),
  (4598175219545276416, 4594314991293244562, 4597049319638433792),
  (4602678819172646912, 4591215111030249286, 4599864069405540352)],
 [(4604930618986332160, 4607182418800017408, 4584664420663164928),
  (4604930618986332160, 4607182418800017408, 4589168020290535424),
  (4604930618986332160, 4602678819172646912, 4589168020290535424),
  (4598175219545276416, 4599676419421066581, 4591419820104220672),
  (4598175219545276416, 4600877379321698714, 4594797519824748544),
  (4598175219545276416, 4594314991293244562, 4597049319638433792),
  (4604930618986332160, 4591215111030249286, 4599864069405540352)],
 [(0, 4607182418800017408, 4584664420663164928),
  (4606181618882823964, 4607182418800017408, 4586916220476850176),
  (4604930618986332160, 4602678819172646912, 4589168020290535424),
  (4602678819172646912, 4599676419421066581, 4591419820104220672),
  (4600677219338260025, 4599075939470750515, 4594797519824748544),
  (4598175219545276416, 4594314991293244562, 4597049319638433792),
  (0, 4591215111030249286, 4599864069405540352)],
 [(4598175219545276416, 4607182418800017408, 4584664420663164928),
  (0, 0, 4584664420663164928),
  (4604930618986332160, 4602678819172646912, 4589168020290535424),
  (4604930618986332160, 4599676419421066581, 4591419820104220672),
  (0, 0, 4593671619917905920),
  (4598175219545276416, 4594314991293244562, 4597049319638433792),
  (4598175219545276416, 4591215111030249286, 4599864069405540352)],
 [(4602678819172646912, 4607182418800017408, 4584664420663164928),
  (0, 0, 4584664420663164928),
  (0, 4602678819172646912, 4589168020290535424),
  (0, 4599676419421066581, 4591419820104220672),
  (0, 0, 4593671619917905920),
  (4602678819172646912, 4594314991293244562, 4597049319638433792),
  (4602678819172646912, 4591215111030249286, 4599864069405540352)],
 [(4604930618986332160, 4607182418800017408, 4584664420663164928),
  (4606181618882823964, 4607182418800017408, 4586916220476850176),
  (0, 4602678819172646912, 4589168020290535424),
  (4598175219545276416, 4599676419421066581, 4591419820104220672),
  (4600677219338260025, 4599075939470750515, 4594797519824748544),
  (4602678819172646912, 4594314991293244562, 4597049319638433792),
  (4604930618986332160, 4591215111030249286, 4599864069405540352)],
 [(0, 4607182418800017408, 4584664420663164928),
  (0, 4607182418800017408, 4589168020290535424),
  (0, 4602678819172646912, 4589168020290535424),
  (4602678819172646912, 4599676419421066581, 4591419820104220672),
  (4602678819172646912, 4600877379321698714, 4594797519824748544),
  (4602678819172646912, 4594314991293244562, 4597049319638433792),
  (0, 4591215111030249286, 4599864069405540352)],
 [(4598175219545276416, 4607182418800017408, 4584664420663164928),
  (4592670820000712477, 4607182418800017408, 4586916220476850176),
  (0, 4602678819172646912, 4589168020290535424),
  (4604930618986332160, 4599676419421066581, 4591419820104220672),
  (4603679619089840356, 4599075939470750515, 4594797519824748544),
  (4602678819172646912, 4594314991293244562, 4597049319638433792),
  (4598175219545276416, 4591215111030249286, 4599864069405540352)]]
noncomputable def mixN (n f s : Nat) : List (UInt64 × UInt64 × UInt64) := mixTab.getD (n * 16 + f * 4 + s) []
noncomputable def szN (n : Nat) : List Int := [[1, 1, 2, 3, 5], [1, 1, 2, 3, 5, 8], [1, 1, 2, 3, 5, 8, 13], [1, 1, 2, 3, 5, 8, 13, 21]].getD n []
theorem szN_eq : ∀ n, n < 4 → szs (n + 4) = szN n := by decide +kernel
theorem tabN_len : ∀ n, n < 4 → ∀ f, f < 4 → ∀ s, s < 4 → (agesN n f s).length = (tabN n f s).length ∧ (agesN n f s).length ≤ 100 ∧ (mixN n f s).length = n + 4 := by decide +kernel
theorem agesN_ok : ∀ n, n < 4 → ∀ f, f < 4 → ∀ s, s < 4 → ((agesN n f s).all fun a => decide (0 ≤ a) && decide (a ≤ 10)) = true := by decide +kernel
theorem chkN : ∀ n, n < 4 → ∀ f, f < 4 → ∀ s, s < 4 → chk (agesN n f s) (0, 0, 0) (tabN n f s) = true := by decide +kernel
theorem sum_nil {ag : List Int} : sumT ag 0 = trip (0, 0, 0) := rfl
theorem stepN : ∀ n, n < 4 → ∀ f, f < 4 → ∀ s, s < 4 → stepM (szN n) (tabN n f s) 0 (mixN n f s) = true := by decide +kernel
theorem fitN : ∀ n, n < 4 → ∀ f, f < 4 → ∀ s, s < 4 → ((List.range (n + 4)).all fun j => fitsB ((mixN n f s).getD j (0, 0, 0)) (leftL (1 + (j : Int) * 1) (((n + 4 : Nat) : Int) - (1 + (j : Int) * 1)) f s) ((szN n).getD (1 + (j : Int) * 1).toNat 0)) = true := by decide +kernel
theorem pure6 : ∀ n, n < 4 → ∀ f, f < 4 → ∀ s, s < 4 → (gst f s (n + 4 - 1)).2.length ≤ 6000 := by decide +kernel
theorem sumN {n f s : Nat} (hn : n < 4) (hf : f < 4) (hs : s < 4) : ∀ i, i < (tabN n f s).length → sumT (agesN n f s) (i + 1) = trip ((tabN n f s).getD i (0, 0, 0)) := by
  intro i hi
  have := chk_ok (agesN n f s) (agesN n f s) 0 (0, 0, 0) (tabN n f s) rfl sum_nil (chkN n hn f hf s hs) i (by rw [(tabN_len n hn f hf s hs).1]; exact hi)
  rw [← this, Nat.zero_add]
theorem mixesN {n f s : Nat} (hn : n < 4) (hf : f < 4) (hs : s < 4) : mixes0 (n + 4) f s = mixN n f s ∧ ∀ i, i < (ages0 (n + 4) f s).length → (i : Int) + 1 ∈ szs (n + 4) → mixOk (ages0 (n + 4) f s) (i + 1) = true := by
  have h := stepM_ok (agesN n f s) (szN n) (tabN n f s) (sumN hn hf hs) (tabN n f s) 0 (mixN n f s) rfl (stepN n hn f hf s hs)
  unfold mixes0
  rw [pure8 n hn f hf s hs, szN_eq n hn, (tabN_len n hn f hf s hs).1]
  rw [Nat.zero_add] at h
  exact ⟨h.1, fun i q1 q2 => h.2 i (Nat.zero_le _) q1 q2⟩
section
variable {n f s : Nat}
theorem all_n (hn1 : 4 ≤ n) (hn2 : n ≤ 7) (hf : f ≤ 3) (hs : s ≤ 3) : Parsed (codes (gst f s (n - 1)).2) (due0 n f s) ∧ (gst f s (n - 1)).2.length ≤ 6000 ∧ (due0 n f s).length ≤ 300 ∧ (due0 n f s)[0]? = some 38 ∧ (∀ (i : Nat) (a : Int), (ages0 n f s)[i]? = some a → 0 ≤ a ∧ a ≤ 10) ∧ (ages0 n f s).length ≤ 100 ∧
    (mixes0 n f s).length = n ∧ (∀ i : Nat, i < (ages0 n f s).length → (i : Int) + 1 ∈ szs n → mixOk (ages0 n f s) (i + 1) = true) ∧
    ∀ j : Nat, j < n → fitsB ((mixes0 n f s).getD j (0, 0, 0)) (leftL (1 + (j : Int) * 1) ((n : Int) - (1 + (j : Int) * 1)) f s) ((szs n).getD (1 + (j : Int) * 1).toNat 0) = true := by
  obtain ⟨k, rfl⟩ : ∃ k, n = k + 4 := ⟨n - 4, by omega⟩
  have hk : k < 4 := by omega
  have h2 := pure2 k hk f (by omega) s (by omega)
  have hd := dueL_len (ns := szs (k + 4)) (n := k + 4) (f := f) (s := s) hn2 hf hs ((szs (k + 4)).getD (k + 4) 0).toNat
  have hl := szs_last hn1 hn2
  have e8 := pure8 k hk f (by omega) s (by omega)
  have h3 := tabN_len k hk f (by omega) s (by omega)
  refine ⟨parse_ok _ _ _ (pure1 k hk f (by omega) s (by omega)), pure6 k hk f (by omega) s (by omega), ?_, h2, ?_, by rw [e8]; exact h3.2.1, by rw [(mixesN hk (by omega) (by omega)).1]; exact h3.2.2, ?_, ?_⟩
  · have h9 : ((szs (k + 4)).getD (k + 4) 0).toNat ≤ 21 := by have := hl.2; omega
    have h8 : (dueL (szs (k + 4)) (k + 4) f s ((szs (k + 4)).getD (k + 4) 0).toNat).length ≤ 300 := Nat.le_trans hd (by omega)
    exact h8
  · intro i a ha
    have := List.all_eq_true.mp (agesN_ok k hk f (by omega) s (by omega)) a (List.mem_of_getElem? (e8 ▸ ha))
    simpa using this
  · exact (mixesN hk (by omega) (by omega)).2
  · intro j hj
    have := List.all_eq_true.mp (fitN k hk f (by omega) s (by omega)) j (List.mem_range.mpr hj)
    rw [(mixesN hk (by omega) (by omega)).1, szN_eq k hk]
    exact this
end
end Mine
end S_Z4
section S_Top
open PySem PySem.W PyProof.Rows
set_option linter.unusedVariables false
set_option maxRecDepth 100000
set_option maxHeartbeats 4000000
namespace Mine
section
local macro_rules | `(tactic| walk_at "call type:range") => `(tactic| ((rename Fr _ _ _ _ => F'); (rename News _ _ _ _ => N'); (with_unfolding_all refine range2_rows F' N' ?_; intro _ _ _ _ _ _ _ _ _)))
local macro_rules | `(tactic| walk_at "call builtin:len") => `(tactic| (k_here; (try dsimp only); refine hold_of ?_))
local macro_rules | `(tactic| walk_at "subscriptTail Name BinOp ref int") => `(tactic| (k_here; (try dsimp only); refine hold_of ?_))
local macro_rules | `(tactic| walk_at "subscriptTail Name Name ref int") => `(tactic| (k_here; (try dsimp only); refine hold_of ?_))
local macro_rules | `(tactic| walk_at "call ref") => `(tactic| (k_here; (try dsimp only); refine hold_of ?_))
theorem mod4n {x : Int} : ∃ n : Nat, 4 + Int.fmod x 4 = (n : Int) ∧ 4 ≤ n ∧ n ≤ 7 := by
  have h1 := fmod_lo x (n := 4) (by decide)
  have h2 := fmod_hi x (n := 4) (by decide)
  exact ⟨(4 + Int.fmod x 4).toNat, by omega, by omega, by omega⟩
theorem mod4f {x : Int} : ∃ n : Nat, Int.fmod x 4 = (n : Int) ∧ n ≤ 3 := by
  have h1 := fmod_lo x (n := 4) (by decide)
  have h2 := fmod_hi x (n := 4) (by decide)
  exact ⟨(Int.fmod x 4).toNat, by omega, by omega⟩
theorem topT : PySem.Challenge.rw_tr0035_01.Holds := by
  refine Mine.hd ?_
  k_go0
  k_steps
  refine of_hold ?_
  (rename IntsAre _ _ => hI); (rename Heap.IsList _ _ _ => hL)
  refine lcells (by k_asm) (by k_asm) (by k_asm) (by k_asm) hL (by k_asm) (by first | exact rfl | assumption) (by ktr_room) (by ktr_units) hI (by omega) ?_
  intro D1 vs1 ep1 h1 tk1 F1 N1 l1 iC
  (try dsimp only)
  obtain ⟨c, iC, hc4, hc0⟩ : ∃ c : List Int, IntsAre vs1.toList c ∧ c.length = 4 ∧ ∀ j, 0 ≤ c.getD j 0 := ⟨_, iC, cellsT_ok _ _⟩
  obtain ⟨n, hn, hn1, hn2⟩ := mod4n (x := c.getD (Int.toNat 0) 0)
  obtain ⟨f, hf, hf3⟩ := mod4f (x := c.getD (Int.toNat 1) 0)
  obtain ⟨s0, hs0, hs3⟩ := mod4f (x := c.getD (Int.toNat 2) 0)
  have hp := hc0 (Int.toNat 3)
  k_steps
  refine of_hold ?_
  rw [hn]
  refine lsizes (by k_asm) (by k_asm) (by k_asm) (by k_asm) (by k_asm) (by first | exact rfl | assumption) (by ktr_room) (by ktr_units) hn1 hn2 ?_
  intro D2 vs2 ep2 h2 tk2 F2 N2 l2 iS
  (try dsimp only)
  k_steps
  refine of_hold ?_
  rw [hn, hf, hs0]
  refine grown (by k_asm) (by k_asm) (by k_asm) (by k_asm) (by k_asm) (by first | exact rfl | assumption) (by ktr_room) (by ktr_units) hn1 hn2 hf3 hs3 hp ?_
  intro t3 h3 tk3 F3 N3
  (try dsimp only)
  k_steps
  refine of_hold ?_
  have hall := all_n hn1 hn2 hf3 hs3
  obtain ⟨p1, p2, p3, p4, p5, p6, p7, p8, p9⟩ := hall
  refine lread (by k_asm) (by k_asm) (by k_asm) (by k_asm) (by k_asm) (by k_asm) (by k_asm) (by first | exact rfl | assumption) (by ktr_room) (by ktr_units) p2 p1 (by omega) ?_
  intro D3 vs3 ep3 h4 tk4 F4 N4 l4 iN
  (try dsimp only)
  k_steps
  refine of_hold ?_
  rw [hn, hf, hs0]
  (rename News _ _ _ _ => N4b)
  have N4' := news_sub N4b (news' := (D2, W.listOf vs2 ep2) :: (D3, W.listOf vs3 ep3) :: (D1, W.listOf vs1 ep1) :: []) (List.forall_mem_cons.mpr ⟨by k_mem, List.forall_mem_cons.mpr ⟨by k_mem, List.forall_mem_cons.mpr ⟨by k_mem, fun _ h => nomatch h⟩⟩⟩)
  refine ldue (by k_asm) (by k_asm) (by k_asm) N4' (by k_asm) (by first | exact rfl | assumption) (by ktr_room) (by ktr_units) hn1 hn2 hf3 hs3 iS ?_
  intro D5 vs5 ep5 h6 tk6 F6 N6 l6 iD
  (try dsimp only)
  k_steps
  rotate_left
  · exact absurd rfl (‹¬ due0 n f s0 = _› : _)
  refine of_hold ?_
  have N6' := news_sub N6 (news' := (D3, W.listOf vs3 ep3) :: (D2, W.listOf vs2 ep2) :: []) (List.forall_mem_cons.mpr ⟨by k_mem, List.forall_mem_cons.mpr ⟨by k_mem, fun _ h => nomatch h⟩⟩)
  refine lages (by k_asm) (by k_asm) (by k_asm) N6' (by k_asm) (by first | exact rfl | assumption) (by ktr_room) (by ktr_units) iN p4 (by omega) ?_
  intro D7 vs7 ep7 h8 tk8 F8 N8 l8 iA
  (try dsimp only)
  k_steps
  refine of_hold ?_
  have N8' := news_sub N8 (news' := (D7, W.listOf vs7 ep7) :: (D2, W.listOf vs2 ep2) :: []) (List.forall_mem_cons.mpr ⟨by k_mem, List.forall_mem_cons.mpr ⟨by k_mem, fun _ h => nomatch h⟩⟩)
  refine lmixes (by k_asm) (by k_asm) (by k_asm) N8' (by k_asm) (by first | exact rfl | assumption) (by ktr_room) (by ktr_units) iA iS (Nat.le_trans p6 (by decide)) p5 p8 ?_
  intro D9 vs9 ep9 tl h10 tk10 F10 N10 hMx
  (try dsimp only)
  k_steps
  refine of_hold ?_
  have hsz : vs9.size = n := by
    have := hMx.len
    rw [Array.length_toList] at this
    rw [this]; exact p7
  (rename News _ _ _ _ => N11)
  refine Calls.call_len_list ⟨_, (N11 _ (.head _)).1, rfl, ep9, rfl⟩ (by omega) ?_
  (try dsimp only)
  k_steps
  all_goals (try (exfalso; omega))
  refine of_hold ?_
  (rename Fr _ _ _ _ => lF'); (rename News _ _ _ _ => lN'); (rename IsRange _ _ _ _ _ _ _ _ => rgX)
  rw [hn] at rgX
  refine iter_rangeL (n := n) [] (fun i nx => nx = (D9, W.listOf vs9 ep9) :: (D7, W.listOf vs7 ep7) :: (D2, W.listOf vs2 ep2) :: (tl ++ [])) (by rfl) rgX (small_one (by decide) (by decide) (by omega) (by omega)) (by rw [show ((n : Int) + 1) = ((n + 1 : Nat) : Int) by omega]; unfold Builtin.Range.rangeSize; omega) lF' lN' rfl ?_ ?_
  · rintro i tt u nx h tk own hi hadr hoff rfl F' N'
    clear lF' lN' rgX
    have hml : i < (mixes0 n f s0).length := by rw [p7]; exact hi
    obtain ⟨T0, u5, u6, u7, hv, hT, q5, q6, q7⟩ := hMx.at i ((mixes0 n f s0).getD i (0, 0, 0)) (show (mixes0 n f s0)[i]? = _ by simp [List.getD, hml])
    k_steps
    refine of_hold ?_
    (rename News _ _ _ _ => N12)
    refine itemAt (x := .ref T0) N12 (.head _) (by omega) (by omega) (by rw [show (1 + (i : Int) * 1 - 1).toNat = i by omega, ← Array.getElem?_toList]; exact hv) ?_
    (try dsimp only)
    k_steps
    refine of_hold ?_
    rw [hn, hf, hs0]
    refine lleft (by k_asm) (by k_asm) (by k_asm) (by k_asm) (by k_asm) (by first | exact rfl | assumption) (by ktr_room) (by ktr_units) ?_
    intro DL vsL epL h12 tk12 F12 N13 l12 iL
    (try dsimp only)
    k_steps
    refine of_hold ?_
    (rename News _ _ _ _ => N14)
    refine item_ints N14 (by k_mem) iS (by omega) (by omega) (by rw [szs_len hn2]; omega) ?_
    intro t9
    (try dsimp only)
    k_steps
    refine of_hold ?_
    (rename News _ _ _ _ => N15)
    have N16 := news_sub N15 (news' := (DL, W.listOf vsL epL) :: (T0, tupO #[.float ((mixes0 n f s0).getD i (0, 0, 0)).1 u5, .float ((mixes0 n f s0).getD i (0, 0, 0)).2.1 u6, .float ((mixes0 n f s0).getD i (0, 0, 0)).2.2 u7]) :: ((D9, W.listOf vs9 ep9) :: (D7, W.listOf vs7 ep7) :: (D2, W.listOf vs2 ep2) :: (tl ++ []) ++ own)) (List.forall_mem_cons.mpr ⟨.head _, List.forall_mem_cons.mpr ⟨.tail _ (List.mem_append.mpr (.inl (.tail _ (.tail _ (.tail _ (List.mem_append.mpr (.inl hT))))))), fun p hp => .tail _ hp⟩⟩)
    refine lfits (by k_asm) (by k_asm) (by k_asm) N16 (by k_asm) (by first | exact rfl | assumption) (by ktr_room) (by ktr_units) iL (p9 i hi) q5 q6 q7 ?_
    intro h15 tk15 F15 N17
    (try dsimp only)
    clear N16 N15
    k_steps
    refine of_hold ?_
    (rename News _ _ _ _ => N18)
    refine InvEndN.intro (by assumption) N18 ⟨rfl, fun z h1 h2 => by simp only [h1, h2, if_false, hn, hf, hs0]⟩ rfl (fun p hp => .tail _ (.tail _ (List.mem_append.mpr (.inl hp)))) (fun p hp => .tail _ (.tail _ (List.mem_append.mpr (.inr hp))))
  · rintro u nx h tk rfl F' N'
    clear lF' lN' rgX
    k_steps
end
end Mine
end S_Top
end G_D1
end G_S1
theorem PySem.Challenge.cw_tr0035_01_holds : PySem.Challenge.rw_tr0035_01.Holds := by
  exact Mine.topT
