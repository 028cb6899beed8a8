import PyProof.Rows.All
import Wide.All
import OpenK.AllK
import Wide.FinOn
import PySem.Challenge.RW_ft5041_01
set_option rowWalk.seconds 0
open PySem PySem.W PyProof.Rows PySem.Spec PySem.Calls
/- part HD -/
set_option Elab.async false
set_option maxRecDepth 100000
set_option maxHeartbeats 8000000
namespace Mine
open_top hd for PySem.Challenge.rw_ft5041_01
end Mine
/- part C0 -/
set_option Elab.async false
set_option maxRecDepth 100000
set_option maxHeartbeats 8000000
namespace Mine
abbrev PR : Program := PySem.Challenge.rw_ft5041_01.row.prog
theorem fill : PySem.Challenge.rw_ft5041_01 = PySem.Challenge.rw_ft5041_01 ∧ Mine.hd.heap_39 = Mine.hd.heap_39 := by
  k_fill
  exact ⟨rfl, rfl⟩
/-- what a call of the def at `f` makes of the ledger `news` -/
def Ct (w : World) (k : Nat) (f : Addr) (args : List Value) (news : List (Addr × Obj)) (R : Value → List (Addr × Obj) → Prop) : Prop :=
  ∀ (p : Program) (loose : List Str) (mean : ExcName → Option Value) (mg mb : Str → Option Value) (dp un : Nat) (gd : Option (List Code)) (cn : Str) (cs : Scope) (a : Addr) (ccd : Value) (cl : List (Str × Addr)) (outer : List Env)
    (A₀ : Around) (base h₀ : Heap) (L : Addr) (m : Str → Option Value) (s : Shared) (Q E : Value → Shared → Prop),
    Below A₀ base outer h₀ → Fr h₀ L s.heap m → (Mine.hd.heap_39 w.params).In h₀ → News h₀ L s.heap news → Top p loose mean mg mb h₀ → cs.kind = .function →
    dp + 2 * k < recursionLimit → un + 10 * k < cLine →
    (∀ (v : Value) (news' : List (Addr × Obj)) (h' : Heap) (tk' : Nat), R v news' → Fr h₀ L h' m → News h₀ L h' news' → Q v { s with heap := h', toks := tk' }) →
      codeAny (model PR w) (ktrTop dp un gd cn cs L a ccd cl outer) (.call (.ref f) ⟨args, []⟩) (fun r s' => match r with | .ok (.ret v) => Q v s' | .ok _ => False | .error e => E e s') s
inductive Pair : Value → Str → Prop
  | str (x : Str) (t : Tok) : Pair (.str x t) x
  | oct (t : Tok) : Pair (.bytes #[111] t) (Str.ofString "o")
  | bad (t : Tok) : Pair (.bytes #[255] t) (Str.ofString "\uFFFD")
  | num (t : Tok) : Pair (.int 7 t) (Str.ofString "7")
  | none : Pair .none (Str.ofString "None")
end Mine
/- part C1 -/
set_option Elab.async false
set_option maxRecDepth 100000
set_option maxHeartbeats 8000000
namespace Mine
theorem fill_C1 : PySem.Challenge.rw_ft5041_01 = PySem.Challenge.rw_ft5041_01 ∧ Mine.hd.heap_39 = Mine.hd.heap_39 := by
  k_fill
  exact ⟨rfl, rfl⟩
/-! a dict of names, letters apart -/
theorem isStr_iff {v : Value} {x : Str} : v.isStr x = true ↔ ∃ t, v = .str x t := by
  cases v <;> simp [Value.isStr]
theorem isStr_two {v : Value} {x y : Str} (h1 : v.isStr x = true) (h2 : v.isStr y = true) : x = y := by
  obtain ⟨t, rfl⟩ := isStr_iff.mp h1
  obtain ⟨t', e⟩ := isStr_iff.mp h2
  cases e; rfl
theorem refKey_str {h : Int} {x : Str} {t : Tok} {v : Value} : DictEntry.refKey ⟨h, .str x t, v⟩ = false := rfl
theorem noref_put {x : Str} {h : Int} {t : Tok} {v : Value} : ∀ {es : List DictEntry}, es.any (·.refKey) = false → (putL x h (.str x t) v es).any (·.refKey) = false
  | [], _ => rfl
  | e :: r, hn => by
    rw [List.any_cons, Bool.or_eq_false_iff] at hn
    unfold putL
    split
    · rename_i q
      obtain ⟨t', e'⟩ := isStr_iff.mp q
      rw [List.any_cons, Bool.or_eq_false_iff]
      exact ⟨hn.1, hn.2⟩
    · rw [List.any_cons, Bool.or_eq_false_iff]
      exact ⟨hn.1, noref_put hn.2⟩
theorem find_put {x y : Str} {h : Int} {t : Tok} {v : Value} : ∀ {es : List DictEntry}, ((putL x h (.str x t) v es).find? (·.key.isStr y)).map (·.val) = if y = x then some v else (es.find? (·.key.isStr y)).map (·.val)
  | [] => by
    unfold putL
    by_cases q : y = x
    · subst q; simp [Value.isStr]
    · simp [Value.isStr, q, Ne.symm q]
  | e :: r => by
    unfold putL
    by_cases hx : e.key.isStr x = true
    · rw [if_pos hx]
      by_cases q : y = x
      · subst q; simp [hx]
      · have hy : e.key.isStr y = false := by
          cases z : e.key.isStr y with
          | false => rfl
          | true => exact absurd (isStr_two z hx) q
        simp [hy, q]
    · rw [if_neg hx]
      by_cases hy : e.key.isStr y = true
      · have q : y ≠ x := fun z => hx (z ▸ hy)
        simp [hy, q]
      · have hy' : e.key.isStr y = false := by simpa using hy
        rw [List.find?_cons, hy', List.find?_cons, hy']
        exact find_put
theorem getL_of {y : Str} {es : List DictEntry} (hn : es.any (·.refKey) = false) : getL y es = some ((es.find? (·.key.isStr y)).map (·.val)) := by
  unfold getL
  cases q : es.find? (·.key.isStr y) with
  | none => simp [hn]
  | some e => rfl
theorem getL_put {x y : Str} {h : Int} {t : Tok} {v : Value} {es : List DictEntry} (hn : es.any (·.refKey) = false) : getL y (putL x h (.str x t) v es) = if y = x then some (some v) else getL y es := by
  rw [getL_of (noref_put hn), find_put, getL_of hn]
  split <;> rfl
theorem len_put {x : Str} {h : Int} {k v : Value} : ∀ {es : List DictEntry}, (putL x h k v es).length ≤ es.length + 1
  | [] => by simp [putL]
  | e :: r => by
    unfold putL
    split
    · simp
    · have := len_put (x := x) (h := h) (k := k) (v := v) (es := r)
      simp only [List.length_cons]; omega
theorem len_put_in {x : Str} {h : Int} {k v : Value} : ∀ {es : List DictEntry} {y : Value}, getL x es = some (some y) → (putL x h k v es).length = es.length
  | [], _, e => by simp [getL] at e
  | e :: r, y, he => by
    unfold putL
    split
    · simp
    · rename_i q
      have q' : e.key.isStr x = false := by simpa using q
      have : getL x r = some (some y) := by
        unfold getL at he ⊢
        rw [List.find?_cons, q'] at he
        cases z : r.find? (·.key.isStr x) with
        | none => rw [z] at he; simp only at he; split at he <;> cases he
        | some e' => rw [z] at he; exact he
      have := len_put_in (x := x) (h := h) (k := k) (v := v) this
      simp only [List.length_cons]; omega
abbrev sExt : Str := "extension"
abbrev sUser : Str := "_user"
abbrev sDesc : Str := "_description"
/-- names of the class that no transaction's own dict bears -/
def methNames : List Str := ["set_user", "set_description", "note", "setUser", "setExtendedInfo", "commit", "abort", "_savepoint2index", "_callBeforeCommitHooks", "_call_hooks", "_commitResources", "_callAfterCommitHooks", "_free", "_free_manager", "_callBeforeAbortHooks", "_callAfterAbortHooks", "_invalidate_all_savepoints", "_cleanup", "_data", "_saveAndGetCommitishError", "_prior_operation_failed"]
theorem meth_off {y : Str} (h : methNames.contains y = true) : y ≠ sExt ∧ y ≠ sUser ∧ y ≠ sDesc := by
  refine ⟨?_, ?_, ?_⟩ <;> (rintro rfl; revert h; decide +kernel)
/-- a transaction's own dict: f says the names that stand, e the extension, u the user, d the description -/
structure TD (f : Str → Option (Option Value)) (es : List DictEntry) (e : Value) (u d : Str) : Prop where
  noref : es.any (·.refKey) = false
  ext : getL sExt es = some (some e)
  user : (getL sUser es = some none ∧ u = Str.ofString "") ∨ ∃ t, getL sUser es = some (some (.str u t))
  desc : (getL sDesc es = some none ∧ d = Str.ofString "") ∨ ∃ t, getL sDesc es = some (some (.str d t))
  rest : ∀ y, y ≠ sExt → y ≠ sUser → y ≠ sDesc → getL y es = f y
  meth : ∀ y, methNames.contains y = true → getL y es = some none
  len : es.length + (if getL sUser es = some none then 1 else 0) + (if getL sDesc es = some none then 1 else 0) ≤ 14
theorem sEU : sExt ≠ sUser := by decide
theorem sED : sExt ≠ sDesc := by decide
theorem sUD : sUser ≠ sDesc := by decide
theorem TD.putExt {f : Str → Option (Option Value)} {es : List DictEntry} {e e' : Value} {u d : Str} {h : Int} {t : Tok} (T : TD f es e u d) : TD f (putL sExt h (.str sExt t) e' es) e' u d := by
  have g : ∀ y, y ≠ sExt → getL y (putL sExt h (.str sExt t) e' es) = getL y es := fun y hy => by rw [getL_put T.noref, if_neg hy]
  refine ⟨noref_put T.noref, by rw [getL_put T.noref, if_pos rfl], ?_, ?_, fun y h1 h2 h3 => (g y h1).trans (T.rest y h1 h2 h3), fun y hy => (g y (meth_off hy).1).trans (T.meth y hy), ?_⟩
  · rw [g _ sEU.symm]; exact T.user
  · rw [g _ sED.symm]; exact T.desc
  · rw [g _ sEU.symm, g _ sED.symm, len_put_in T.ext]; exact T.len
theorem TD.putUser {f : Str → Option (Option Value)} {es : List DictEntry} {e : Value} {u d u' : Str} {h : Int} {t t' : Tok} (T : TD f es e u d) : TD f (putL sUser h (.str sUser t) (.str u' t') es) e u' d := by
  have g : ∀ y, y ≠ sUser → getL y (putL sUser h (.str sUser t) (.str u' t') es) = getL y es := fun y hy => by rw [getL_put T.noref, if_neg hy]
  have gs : getL sUser (putL sUser h (.str sUser t) (.str u' t') es) = some (some (.str u' t')) := by rw [getL_put T.noref, if_pos rfl]
  refine ⟨noref_put T.noref, by rw [g _ sEU]; exact T.ext, .inr ⟨_, gs⟩, ?_, fun y h1 h2 h3 => (g y h2).trans (T.rest y h1 h2 h3), fun y hy => (g y (meth_off hy).2.1).trans (T.meth y hy), ?_⟩
  · rw [g _ sUD.symm]; exact T.desc
  · rw [g _ sUD.symm, gs, if_neg (show ¬ some (some (Value.str u' t')) = some none by simp)]
    have hl := T.len
    rcases T.user with ⟨q, _⟩ | ⟨t₀, q⟩
    · rw [q, if_pos rfl] at hl
      have := len_put (x := sUser) (h := h) (k := .str sUser t) (v := .str u' t') (es := es)
      omega
    · rw [len_put_in q]; omega
theorem TD.putDesc {f : Str → Option (Option Value)} {es : List DictEntry} {e : Value} {u d d' : Str} {h : Int} {t t' : Tok} (T : TD f es e u d) : TD f (putL sDesc h (.str sDesc t) (.str d' t') es) e u d' := by
  have g : ∀ y, y ≠ sDesc → getL y (putL sDesc h (.str sDesc t) (.str d' t') es) = getL y es := fun y hy => by rw [getL_put T.noref, if_neg hy]
  have gs : getL sDesc (putL sDesc h (.str sDesc t) (.str d' t') es) = some (some (.str d' t')) := by rw [getL_put T.noref, if_pos rfl]
  refine ⟨noref_put T.noref, by rw [g _ sED]; exact T.ext, ?_, .inr ⟨_, gs⟩, fun y h1 h2 h3 => (g y h3).trans (T.rest y h1 h2 h3), fun y hy => (g y (meth_off hy).2.2).trans (T.meth y hy), ?_⟩
  · rw [g _ sUD]; exact T.user
  · rw [g _ sUD, gs, if_neg (show ¬ some (some (Value.str d' t')) = some none by simp)]
    have hl := T.len
    rcases T.desc with ⟨q, _⟩ | ⟨t₀, q⟩
    · rw [q, if_pos rfl] at hl
      have := len_put (x := sDesc) (h := h) (k := .str sDesc t) (v := .str d' t') (es := es)
      omega
    · rw [len_put_in q]; omega
theorem TD.small {f : Str → Option (Option Value)} {es : List DictEntry} {e : Value} {u d : Str} (T : TD f es e u d) : es.length ≤ 14 := by have := T.len; omega
theorem upd_of {d : Addr} {o : Obj} {news : List (Addr × Obj)} {g : Obj → List (Addr × Obj)} (U : UpdF d o news g) (o' : Obj) : Upd d o o' news (g o') := by
  induction U with
  | head h => exact .head h
  | tail h _ ih => exact .tail h ih
section
variable {prog : Program} {w : World} {A : Around} {E : Value → Shared → Prop} {s : Shared} {h₀ : Heap} {L x dx : Addr} {m : Str → Option Value} {news : List (Addr × Obj)} {f : Str → Option (Option Value)} {es : List DictEntry} {n : Nat} {e : Value} {u d : Str} {expr : Bool}
theorem t_ext {Q : Value → Shared → Prop} (F : Fr h₀ L s.heap m) (X : (Mine.hd.heap_39 w.params).In h₀) (N : News h₀ L s.heap news) (hx : (x, instObj 522 dx) ∈ news) (hd : (dx, dictOf es n) ∈ news) (T : TD f es e u d) (hv : handedIn e = true) (h : Q e { s with toks := s.toks + 1 }) :
    wpAny (model prog w) A (getAttr (.ref x) sExt expr) Q E s :=
  get_own F X (InstAt.of_news N hx hd) (by k_is) (by k_is) (by k_is) (by k_is) T.ext hv h
theorem t_user {Q : Value → Shared → Prop} (F : Fr h₀ L s.heap m) (X : (Mine.hd.heap_39 w.params).In h₀) (N : News h₀ L s.heap news) (hx : (x, instObj 522 dx) ∈ news) (hd : (dx, dictOf es n) ∈ news) (T : TD f es e u d) (h : ∀ t, Q (.str u t) { s with toks := s.toks + 1 }) :
    wpAny (model prog w) A (getAttr (.ref x) sUser expr) Q E s := by
  rcases T.user with ⟨q, rfl⟩ | ⟨t, q⟩
  · exact get_cls F X (InstAt.of_news N hx hd) (by k_is) (by k_is) (by k_is) (by k_is) rfl (by decide +kernel) q (h _)
  · exact get_own F X (InstAt.of_news N hx hd) (by k_is) (by k_is) (by k_is) (by k_is) q rfl (h _)
theorem t_desc {Q : Value → Shared → Prop} (F : Fr h₀ L s.heap m) (X : (Mine.hd.heap_39 w.params).In h₀) (N : News h₀ L s.heap news) (hx : (x, instObj 522 dx) ∈ news) (hd : (dx, dictOf es n) ∈ news) (T : TD f es e u d) (h : ∀ t, Q (.str d t) { s with toks := s.toks + 1 }) :
    wpAny (model prog w) A (getAttr (.ref x) sDesc expr) Q E s := by
  rcases T.desc with ⟨q, rfl⟩ | ⟨t, q⟩
  · exact get_cls F X (InstAt.of_news N hx hd) (by k_is) (by k_is) (by k_is) (by k_is) rfl (by decide +kernel) q (h _)
  · exact get_own F X (InstAt.of_news N hx hd) (by k_is) (by k_is) (by k_is) (by k_is) q rfl (h _)
theorem t_meth {name : Str} {fa : Addr} {pl : Sem Bool} {Q : Value × List Value → Shared → Prop} (F : Fr h₀ L s.heap m) (X : (Mine.hd.heap_39 w.params).In h₀) (N : News h₀ L s.heap news) (hx : (x, instObj 522 dx) ∈ news) (hd : (dx, dictOf es n) ∈ news) (T : TD f es e u d) (hn : methNames.contains name = true)
    (hg : plainGet (Mine.hd.heap_39 w.params) 522 name = true) (hf : findIn (Mine.hd.heap_39 w.params) (.ref 522) name = some (some (.ref fa))) (ht : isFn (Mine.hd.heap_39 w.params) (.ref fa) = true) (h : Q (.ref fa, [.ref x]) s) :
    wpAny (model prog w) A (getMethod (.ref x) name pl) Q E s :=
  method_inst F X (InstAt.of_news N hx hd) hg hf ht (T.meth _ hn) h
theorem t_setExt {Q : Unit → Shared → Prop} {g : Obj → List (Addr × Obj)} {v : Value} (F : Fr h₀ L s.heap m) (X : (Mine.hd.heap_39 w.params).In h₀) (N : News h₀ L s.heap news) (hx : (x, instObj 522 dx) ∈ news) (hd : (dx, dictOf es n) ∈ news) (T : TD f es e u d) (U : UpdF dx (dictOf es n) news g)
    (h : ∀ h' es' n', TD f es' v u d → Fr h₀ L h' m → News h₀ L h' (g (dictOf es' n')) → Q () { s with heap := h', toks := s.toks + 2 }) :
    wpAny (model prog w) A (setAttr (.ref x) sExt v) Q E s :=
  set_dict F X N (InstAt.of_news N hx hd) rfl (by k_is) (by k_is) (by k_is) (by k_is) (by rw [T.ext]; rfl) rfl (upd_of U _) (by have := len_put_in (h := PyData.keyHash w.params sExt) (k := .str sExt (s.toks + 1)) (v := v) T.ext; have := T.small; omega)
    fun h' F' N' => h h' _ _ T.putExt F' N'
theorem t_setUser {Q : Unit → Shared → Prop} {g : Obj → List (Addr × Obj)} {v : Str} {t : Tok} (F : Fr h₀ L s.heap m) (X : (Mine.hd.heap_39 w.params).In h₀) (N : News h₀ L s.heap news) (hx : (x, instObj 522 dx) ∈ news) (hd : (dx, dictOf es n) ∈ news) (T : TD f es e u d) (U : UpdF dx (dictOf es n) news g)
    (h : ∀ h' es' n', TD f es' e v d → Fr h₀ L h' m → News h₀ L h' (g (dictOf es' n')) → Q () { s with heap := h', toks := s.toks + 2 }) :
    wpAny (model prog w) A (setAttr (.ref x) sUser (.str v t)) Q E s :=
  set_dict F X N (InstAt.of_news N hx hd) rfl (by k_is) (by k_is) (by k_is) (by k_is) (by rw [getL_of T.noref]; rfl) rfl (upd_of U _) (by have := len_put (x := sUser) (h := PyData.keyHash w.params sUser) (k := .str sUser (s.toks + 1)) (v := .str v t) (es := es); have := T.small; omega)
    fun h' F' N' => h h' _ _ T.putUser F' N'
theorem t_setDesc {Q : Unit → Shared → Prop} {g : Obj → List (Addr × Obj)} {v : Str} {t : Tok} (F : Fr h₀ L s.heap m) (X : (Mine.hd.heap_39 w.params).In h₀) (N : News h₀ L s.heap news) (hx : (x, instObj 522 dx) ∈ news) (hd : (dx, dictOf es n) ∈ news) (T : TD f es e u d) (U : UpdF dx (dictOf es n) news g)
    (h : ∀ h' es' n', TD f es' e u v → Fr h₀ L h' m → News h₀ L h' (g (dictOf es' n')) → Q () { s with heap := h', toks := s.toks + 2 }) :
    wpAny (model prog w) A (setAttr (.ref x) sDesc (.str v t)) Q E s :=
  set_dict F X N (InstAt.of_news N hx hd) rfl (by k_is) (by k_is) (by k_is) (by k_is) (by rw [getL_of T.noref]; rfl) rfl (upd_of U _) (by have := len_put (x := sDesc) (h := PyData.keyHash w.params sDesc) (k := .str sDesc (s.toks + 1)) (v := .str v t) (es := es); have := T.small; omega)
    fun h' F' N' => h h' _ _ T.putDesc F' N'
end
end Mine
/- part C2 -/
set_option Elab.async false
set_option maxRecDepth 100000
set_option maxHeartbeats 8000000
namespace Mine
theorem fill_C2 : PySem.Challenge.rw_ft5041_01 = PySem.Challenge.rw_ft5041_01 ∧ Mine.hd.heap_39 = Mine.hd.heap_39 := by
  k_fill
  exact ⟨rfl, rfl⟩
theorem updF_same {d : Addr} {o : Obj} {news : List (Addr × Obj)} {g : Obj → List (Addr × Obj)} (U : UpdF d o news g) : g o = news := by
  induction U with
  | head h => rfl
  | tail h _ ih => simp [ih]
theorem updF_mem {d : Addr} {o : Obj} {news : List (Addr × Obj)} {g : Obj → List (Addr × Obj)} (U : UpdF d o news g) (o' : Obj) : (d, o') ∈ g o' := by
  induction U with
  | head h => exact .head _
  | tail h _ ih => exact .tail _ ih
theorem updF_keep {d : Addr} {o : Obj} {news : List (Addr × Obj)} {g : Obj → List (Addr × Obj)} (U : UpdF d o news g) (o' : Obj) {q : Addr × Obj} (hq : q ∈ news) (hn : q.1 ≠ d) : q ∈ g o' := by
  induction U with
  | head h =>
    rcases List.mem_cons.mp hq with rfl | hq
    · exact absurd rfl hn
    · exact .tail _ hq
  | tail h _ ih =>
    rcases List.mem_cons.mp hq with rfl | hq
    · exact .head _
    · exact .tail _ (ih hq)
theorem updF_again {d : Addr} {o : Obj} {news : List (Addr × Obj)} {g : Obj → List (Addr × Obj)} (U : UpdF d o news g) (o' : Obj) : UpdF d o' (g o') g := by
  induction U with
  | head h => exact .head h
  | tail h _ ih => exact .tail h ih
local macro_rules | `(tactic| k_mem) => `(tactic| with_reducible assumption)
local macro_rules | `(tactic| k_updF) => `(tactic| with_reducible assumption)
local macro_rules | `(tactic| walk_at "getAttr ref") => `(tactic| (k_here; (with_reducible show wpAny _ _ (getAttr (Value.ref _) (PySem.Str.ofString "extension") _) _ _ _); refine t_ext (by with_reducible assumption) (by with_reducible assumption) (by with_reducible assumption) (by with_reducible assumption) (by with_reducible assumption) (by with_reducible assumption) (by with_reducible assumption) ?_))
local macro_rules | `(tactic| walk_at "getAttr ref") => `(tactic| (k_here; (with_reducible show wpAny _ _ (getAttr (Value.ref _) (PySem.Str.ofString "_user") _) _ _ _); refine t_user (by with_reducible assumption) (by with_reducible assumption) (by with_reducible assumption) (by with_reducible assumption) (by with_reducible assumption) (by with_reducible assumption) ?_; intro t9))
local macro_rules | `(tactic| walk_at "getAttr ref") => `(tactic| (k_here; (with_reducible show wpAny _ _ (getAttr (Value.ref _) (PySem.Str.ofString "_description") _) _ _ _); refine t_desc (by with_reducible assumption) (by with_reducible assumption) (by with_reducible assumption) (by with_reducible assumption) (by with_reducible assumption) (by with_reducible assumption) ?_; intro t9))
local macro_rules | `(tactic| walk_at "setAttr ref") => `(tactic| (k_here; (with_reducible show wpAny _ _ (setAttr (Value.ref _) (PySem.Str.ofString "extension") _) _ _ _); refine t_setExt (by with_reducible assumption) (by with_reducible assumption) (by with_reducible assumption) (by with_reducible assumption) (by with_reducible assumption) (by with_reducible assumption) (by with_reducible assumption) ?_; intro h9 es9 n9 T9 F9 N9))
local macro_rules | `(tactic| walk_at "setAttr ref") => `(tactic| (k_here; (with_reducible show wpAny _ _ (setAttr (Value.ref _) (PySem.Str.ofString "_user") _) _ _ _); refine t_setUser (by with_reducible assumption) (by with_reducible assumption) (by with_reducible assumption) (by with_reducible assumption) (by with_reducible assumption) (by with_reducible assumption) (by with_reducible assumption) ?_; intro h9 es9 n9 T9 F9 N9))
local macro_rules | `(tactic| walk_at "setAttr ref") => `(tactic| (k_here; (with_reducible show wpAny _ _ (setAttr (Value.ref _) (PySem.Str.ofString "_description") _) _ _ _); refine t_setDesc (by with_reducible assumption) (by with_reducible assumption) (by with_reducible assumption) (by with_reducible assumption) (by with_reducible assumption) (by with_reducible assumption) (by with_reducible assumption) ?_; intro h9 es9 n9 T9 F9 N9))
section
variable {w : World} {x dx : Addr} {news : List (Addr × Obj)} {f : Str → Option (Option Value)} {es : List DictEntry} {n : Nat} {e : Value} {u d : Str} {g : Obj → List (Addr × Obj)}
theorem ct_user_get (hx : (x, instObj 522 dx) ∈ news) (hd : (dx, dictOf es n) ∈ news) (T : TD f es e u d) : Ct w 1 231 [.ref x] news fun r l => l = news ∧ ∃ t, r = .str u t := by
  unfold Ct
  intros
  rename_i hret
  k_dflt cell_enter
  k_steps
  exact hret _ _ _ _ ⟨rfl, _, rfl⟩ (by assumption) (by assumption)
theorem ct_desc_get (hx : (x, instObj 522 dx) ∈ news) (hd : (dx, dictOf es n) ∈ news) (T : TD f es e u d) : Ct w 1 248 [.ref x] news fun r l => l = news ∧ ∃ t, r = .str d t := by
  unfold Ct
  intros
  rename_i hret
  k_dflt cell_enter
  k_steps
  exact hret _ _ _ _ ⟨rfl, _, rfl⟩ (by assumption) (by assumption)
theorem ct_ext_get (hx : (x, instObj 522 dx) ∈ news) (hd : (dx, dictOf es n) ∈ news) (T : TD f es e u d) (hv : handedIn e = true) : Ct w 1 214 [.ref x] news fun r l => l = news ∧ r = e := by
  unfold Ct
  intros
  rename_i hret
  k_dflt cell_enter
  k_steps
  exact hret _ _ _ _ ⟨rfl, rfl⟩ (by assumption) (by assumption)
theorem ct_ext_set {v : Value} (hx : (x, instObj 522 dx) ∈ news) (hd : (dx, dictOf es n) ∈ news) (T : TD f es e u d) (U : UpdF dx (dictOf es n) news g) : Ct w 1 223 [.ref x, v] news fun r l => r = .none ∧ ∃ es' n', TD f es' v u d ∧ l = g (dictOf es' n') := by
  unfold Ct
  intros
  rename_i hret
  k_dflt cell_enter
  k_steps
  exact hret _ _ _ _ ⟨rfl, _, _, by assumption, rfl⟩ (by assumption) (by assumption)
end
end Mine
/- part C3 -/
set_option Elab.async false
set_option maxRecDepth 100000
set_option maxHeartbeats 8000000
namespace Mine
theorem fill_C3 : PySem.Challenge.rw_ft5041_01 = PySem.Challenge.rw_ft5041_01 ∧ Mine.hd.heap_39 = Mine.hd.heap_39 := by
  k_fill
  exact ⟨rfl, rfl⟩
section
variable {w : World} {x dx : Addr} {news : List (Addr × Obj)} {f : Str → Option (Option Value)} {es : List DictEntry} {n : Nat} {e : Value} {u d : Str} {g : Obj → List (Addr × Obj)}
  {p : Program} {loose : List Str} {mean : ExcName → Option Value} {mg mb : Str → Option Value} {dp un : Nat} {gd : Option (List Code)} {cn : Str} {cs : Scope} {a : Addr} {ccd : Value} {cl : List (Str × Addr)} {outer : List Env}
    {A₀ : Around} {base h₀ : Heap} {L : Addr} {m : Str → Option Value} {s : Shared} {E : Value → Shared → Prop} {expr : Bool}
/-- a contract, asked for in the walk -/
theorem Ct.call {k : Nat} {fa : Addr} {args : List Value} {R : Value → List (Addr × Obj) → Prop} {Q : Value → Shared → Prop} (C : Ct w k fa args news R) (B : Below A₀ base outer h₀) (F : Fr h₀ L s.heap m) (X : (Mine.hd.heap_39 w.params).In h₀) (N : News h₀ L s.heap news) (T' : Top p loose mean mg mb h₀) (hk : cs.kind = .function)
    (hd : dp + 2 * k < recursionLimit) (hu : un + 10 * k < cLine) (h : ∀ (v : Value) (news' : List (Addr × Obj)) (h' : Heap) (tk' : Nat), R v news' → Fr h₀ L h' m → News h₀ L h' news' → Q v { s with heap := h', toks := tk' }) :
    wpAny (model PR w) (ktrTop dp un gd cn cs L a ccd cl outer) (call (.ref fa) args) Q E s :=
  wpAny_call (codeAny_mono (C p loose mean mg mb dp un gd cn cs a ccd cl outer A₀ base h₀ L m s Q E B F X N T' hk hd hu h) fun r s' z => by rcases r with e | (v | _ | _ | _) <;> exact z)
theorem p_get {k : Nat} {name : Str} {pa fget : Addr} {rest : List Value} {R : Value → List (Addr × Obj) → Prop} {Q : Value → Shared → Prop} (C : Ct w k fget [.ref x] news R) (hg : plainGet (Mine.hd.heap_39 w.params) 522 name = true)
    (ha : findIn (Mine.hd.heap_39 w.params) (.ref 522) name = some (some (.ref pa))) (hn : specialIn (Mine.hd.heap_39 w.params) (.ref pa) "__get__" = some (some (.builtin "property.__get__"))) (ht : takesIn (Mine.hd.heap_39 w.params) (.ref pa) = some true) (hp : recIn (Mine.hd.heap_39 w.params) pa "property" = some (.ref fget :: rest)) (hh : hasDictIn (Mine.hd.heap_39 w.params) 522 = true)
    (B : Below A₀ base outer h₀) (F : Fr h₀ L s.heap m) (X : (Mine.hd.heap_39 w.params).In h₀) (N : News h₀ L s.heap news) (T' : Top p loose mean mg mb h₀) (hk : cs.kind = .function)
    (hd : dp + 2 * k < recursionLimit) (hu : un + 1 + 10 * k < cLine) (hx : (x, instObj 522 dx) ∈ news) (hdx : (dx, dictOf es n) ∈ news) (h : ∀ (v : Value) (news' : List (Addr × Obj)) (h' : Heap) (tk' : Nat), R v news' → Fr h₀ L h' m → News h₀ L h' news' → handedIn v = true ∧ Q v { s with heap := h', toks := tk' }) :
    wpAny (model PR w) (ktrTop dp un gd cn cs L a ccd cl outer) (getAttr (.ref x) name expr) Q E s :=
  get_prop F X (InstAt.of_news N hx hdx) hg hh ha hn ht hp (codeAny_mono (C p loose mean mg mb dp (un + 1) gd cn cs a ccd cl outer A₀ base h₀ L m { s with toks := s.toks + 1 } (fun v s' => handedIn v = true ∧ Q v s') (fun e s' => wpAny (model PR w) (ktrTop dp un gd cn cs L a ccd cl outer) (noteIf true (.ref x) (.str name s.toks) e) (fun _ s'' => E e s'') E s') B F X N T' hk hd (by omega) h) fun r s' z => by
    rcases r with e | (v | _ | _ | _)
    · exact z
    · exact z.elim
    · exact z.elim
    · exact z.elim
    · exact handed_on z.1 z.2)
end
theorem q_set {k : Nat} {w : World} {x dx : Addr} {news : List (Addr × Obj)} {es : List DictEntry} {n : Nat} 
  {p : Program} {loose : List Str} {mean : ExcName → Option Value} {mg mb : Str → Option Value} {dp un : Nat} {gd : Option (List Code)} {cn : Str} {cs : Scope} {a : Addr} {ccd : Value} {cl : List (Str × Addr)} {outer : List Env}
    {A₀ : Around} {base h₀ : Heap} {L : Addr} {m : Str → Option Value} {s : Shared} {E : Value → Shared → Prop} {name : Str} {pa fset : Addr} {v a₁ : Value} {rest : List Value} {R : Value → List (Addr × Obj) → Prop} {Q : Unit → Shared → Prop} (C : Ct w k fset [.ref x, v] news R)
    (hs : findIn (Mine.hd.heap_39 w.params) (.ref 522) "__setattr__" = some (some (.builtin "object.__setattr__"))) (hp : plainOver (Mine.hd.heap_39 w.params) 522 = true) (ht : takerIn (Mine.hd.heap_39 w.params) 522 name = some (some (.ref pa))) (hT : typeIn (Mine.hd.heap_39 w.params) (.ref pa) = some (.type "property")) (hr : recIn (Mine.hd.heap_39 w.params) pa "property" = some (a₁ :: .ref fset :: rest))
    (B : Below A₀ base outer h₀) (F : Fr h₀ L s.heap m) (X : (Mine.hd.heap_39 w.params).In h₀) (N : News h₀ L s.heap news) (T' : Top p loose mean mg mb h₀) (hk : cs.kind = .function)
    (hd : dp + 2 * k < recursionLimit) (hu : un + 2 + 10 * k < cLine) (hx : (x, instObj 522 dx) ∈ news) (hdx : (dx, dictOf es n) ∈ news) (h : ∀ (v : Value) (news' : List (Addr × Obj)) (h' : Heap) (tk' : Nat), R v news' → Fr h₀ L h' m → News h₀ L h' news' → Q () { s with heap := h', toks := tk' }) :
    wpAny (model PR w) (ktrTop dp un gd cn cs L a ccd cl outer) (setAttr (.ref x) name v) Q E s :=
  set_prop F X (InstAt.of_news N hx hdx) hs hp ht hT hr (codeAny_mono (C p loose mean mg mb dp (un + 1 + 1) gd cn cs a ccd cl outer A₀ base h₀ L m { s with toks := s.toks + 1 } (fun _ s' => Q () s') E B F X N T' hk hd (by omega) h) fun r s' z => by
    rcases r with e | (v | _ | _ | _) <;> exact z)
theorem is_none_pair {M : Model} {A : Around} {E : Value → Shared → Prop} {s : Shared} {v : Value} {p : Str} {Q : Value → Shared → Prop} (hp : Pair v p) (hn : v ≠ .none) (h : Q (.bool false) s) : wpAny M A (compareOp .Is v .none) Q E s := by
  cases hp <;> first | exact absurd rfl hn | exact wpAny_bind (wpAny_pure (wpAny_pure h))
theorem isnot_none_pair {M : Model} {A : Around} {E : Value → Shared → Prop} {s : Shared} {v : Value} {p : Str} {Q : Value → Shared → Prop} (hp : Pair v p) (hn : v ≠ .none) (h : Q (.bool true) s) : wpAny M A (compareOp .IsNot v .none) Q E s := by
  cases hp <;> first | exact absurd rfl hn | exact wpAny_bind (wpAny_pure (wpAny_pure h))
theorem is_any_pair {M : Model} {A : Around} {E : Value → Shared → Prop} {s : Shared} {v : Value} {p : Str} {Q : Value → Shared → Prop} (hp : Pair v p) (h : Q (.bool (v == .none)) s) : wpAny M A (compareOp .Is v .none) Q E s := by
  cases hp <;> exact wpAny_bind (wpAny_pure (wpAny_pure h))
end Mine
/- part DECA -/
set_option Elab.async false
set_option maxRecDepth 100000
set_option maxHeartbeats 8000000
namespace Mine
open Builtin
theorem ude_new : ExcNewFacts "UnicodeDecodeError" "UnicodeDecodeError.__new__" where
  ends := by decide +kernel
  owner := by decide +kernel
  entry := entryFor_alias (id' := "BaseException.__new__") (by rw [fastTable_eq_tree]; kernel_rfl) (by first | rfl | decide +kernel) (by decide +kernel) (by rw [fastTable_eq_tree]; kernel_rfl)
  sub := by rw [isSubtype_type]; kernel_rfl
  notAttr := by rw [isSubtype_type]; kernel_rfl
  notName := by rw [isSubtype_type]; kernel_rfl
  made := by kernel_rfl
theorem ude_notType : (Value.type "UnicodeDecodeError" == Value.type "type") = false := by decide +kernel
theorem ude_canMake : ((Manifest.find? "UnicodeDecodeError").bind fun x => List.findSome? (fun t => (Manifest.find? t).bind fun b =>
    if b.noNew = true then some true else if (b.attrs.any fun x => x.fst == "__new__") = true then some false else none) x.mro).getD false = false := by kernel_rfl
theorem ude_noVector : ∀ args, checkTypeCall "UnicodeDecodeError" args = pure () := fun args => by kernel_rfl
theorem ude_mro : ∃ m, mroOf (.type "UnicodeDecodeError") = pure m ∧ m.isEmpty = false := ⟨[.type "UnicodeDecodeError", .type "UnicodeError", .type "ValueError", .type "Exception", .type "BaseException", .type "object"], by rw [mroOf_type]; kernel_rfl, rfl⟩
theorem ude_madeBy : Bind.madeBy (.type "UnicodeDecodeError") = pure (some "UnicodeDecodeError.__new__") := by kernel_rfl
theorem ude_newOk : ∀ rest, checkBuiltinCall "UnicodeDecodeError.__new__" ⟨.type "UnicodeDecodeError" :: rest, []⟩ = pure () := fun rest => by kernel_rfl
theorem ude_init : Slot "UnicodeDecodeError" "__init__" "UnicodeDecodeError.__init__" := .of (owner := "UnicodeDecodeError") (n := "__init__") (by rw [typeLookup_type, builtinLookup_eq_fast]; kernel_rfl) (by decide +kernel) (by decide +kernel) (by decide +kernel)
    (by first | exact .inl (by decide +kernel) | exact .inr (by decide +kernel)) (by rw [isSubtype_type]; kernel_rfl)
theorem ude_initEntry : entryFor table "UnicodeDecodeError.__init__" = some «UnicodeDecodeError.__init__» := entryFor_of_tree (by kernel_rfl)
theorem ude_initKind : builtinKind "UnicodeDecodeError.__init__" = some .slot := by kernel_rfl
theorem ude_initSplit : splitId "UnicodeDecodeError.__init__" = some ("UnicodeDecodeError", "__init__") := by kernel_rfl
theorem ude_initRow : Manifest.signature? "UnicodeDecodeError.__init__" = some ⟨.hand, "wrapper __init__", "", .self, []⟩ := by kernel_rfl
theorem ude_tup : isSubtype (.type "tuple") (.type "tuple") = pure true := by rw [isSubtype_type]; kernel_rfl
theorem ude_enc : isSubtype (.type "UnicodeDecodeError") (.type "UnicodeEncodeError") = pure false := by rw [isSubtype_type]; kernel_rfl
theorem dec_entry {t t1 t2 : Tok} : «bytes.decode» ⟨[.bytes #[255] t, .str (Str.ofString "utf-8") t1, .str (Str.ofString "replace") t2], []⟩ = (mkStr (PySem.Str.ofString "utf-8") >>= fun _ => mkStr (PySem.Str.ofString "utf-8") >>= fun e => mkStr (PySem.Str.ofString "replace") >>= fun r => mkStr (PySem.Str.ofString "bytes.decode") >>= fun d =>
    call (.builtin "_codecs.decode.text") [.bytes #[255] t, e, r, d] >>= fun v => ret v) := by kernel_rfl
theorem road {id : String} : _codecs.decodeRoad id #[255] (Str.ofString "utf-8") (some (Str.ofString "replace")) [] = (_codecs.runDecoder id _codecs.utf8Decoder (some (Str.ofString "replace")) true #[255] 0 [] >>= fun r => mkStr ⟨r.1⟩) := by kernel_rfl
end Mine
/- part DECC -/
set_option Elab.async false
set_option maxRecDepth 100000
set_option maxHeartbeats 1000000
namespace Mine
open Builtin
open UnicodeEncodeError (members setMembers Members beginInit strArgument initRange sizeArgument)
abbrev exO (vs : List Value) : Obj := { cls := .type "UnicodeDecodeError", data := .fields vs.toArray }
/-- grown, but for what stands at e -/
structure Gr (e : Addr) (h h' : Heap) : Prop where
  keep : ∀ b o, b ≠ e → h.get? b = some o → h'.get? b = some o
  sz : h.objs.size ≤ h'.objs.size
section
variable {M : Model} {A : Around} {E : Value → Shared → Prop} {hp : Heap} {g : Array GenState} {d : Drawn} {tk : Nat} {os : OsState} {e : Addr}
theorem mem_five {vs : List Value} {a b r : Value} {i j : Int} {t1 t2 : Tok} {Q : Members → Shared → Prop} (ho : hp.get? e = some (exO vs)) (hv : vs.drop 6 = [a, b, .int i t1, .int j t2, r]) (h : Q { encoding := a, object := b, start := i, stop := j, reason := r } ⟨hp, g, d, tk, os⟩) :
    wpAny M A (members (.ref e)) Q E ⟨hp, g, d, tk, os⟩ := by
  unfold members
  refine wpAny_bind (wpAny_fieldsOf ho rfl ?_)
  rw [show ((vs.toArray.extract 6).toList) = vs.drop 6 from by simp [List.take_of_length_le], hv]
  exact wpAny_pure h
theorem mem_none {vs : List Value} {Q : Members → Shared → Prop} (ho : hp.get? e = some (exO vs)) (hv : vs.drop 6 = []) (h : Q {} ⟨hp, g, d, tk, os⟩) :
    wpAny M A (members (.ref e)) Q E ⟨hp, g, d, tk, os⟩ := by
  unfold members
  refine wpAny_bind (wpAny_fieldsOf ho rfl ?_)
  rw [show ((vs.toArray.extract 6).toList) = vs.drop 6 from by simp [List.take_of_length_le], hv]
  exact wpAny_pure h
theorem gr_update {f : Obj → Obj} : Gr e hp (hp.update e f) := ⟨fun b o hb ho => by rw [Heap.get?_update_other _ _ (Ne.symm hb)]; exact ho, by simp⟩
theorem Gr.trans {h h' h'' : Heap} (a : Gr e h h') (b : Gr e h' h'') : Gr e h h'' := ⟨fun x o hx ho => b.keep x o hx (a.keep x o hx ho), Nat.le_trans a.sz b.sz⟩
theorem set_mem {vs : List Value} {m : Members} {Q : Unit → Shared → Prop} (ho : hp.get? e = some (exO vs)) (hl : vs.length ≤ 11) (h : ∀ h', Gr e hp h' → h'.get? e = some (exO (vs.take 6 ++ [m.encoding, m.object, rawInt m.start, rawInt m.stop, m.reason])) → Q () ⟨h', g, d, tk, os⟩) :
    wpAny M A (setMembers (.ref e) m) Q E ⟨hp, g, d, tk, os⟩ := by
  unfold setMembers
  refine wpAny_updateFields ho rfl ?_ ?_
  · refine h _ gr_update ?_
    rw [Heap.get?_update_self _ ho rfl]
    simp [Obj.mapFields, exO]
  · simp [sizeLine_eq]
    omega
theorem set_f {vs : List Value} {x : Value} {i : Nat} {Q : Unit → Shared → Prop} (ho : hp.get? e = some (exO vs)) (hi : i < vs.length) (h : ∀ h', Gr e hp h' → h'.get? e = some (exO (vs.set i x)) → Q () ⟨h', g, d, tk, os⟩) :
    wpAny M A (setField (.ref e) i x) Q E ⟨hp, g, d, tk, os⟩ := by
  refine wpAny_setField ho rfl (by simpa using hi) ?_
  refine h _ gr_update ?_
  rw [Heap.get?_update_self _ ho rfl]
  simp [Obj.mapFields, exO]
theorem new_tup {vs : List Value} {Q : Value → Shared → Prop} (hl : vs.length ≤ 16) (h : ∀ h' a, Gr e hp h' → a = hp.objs.size → h'.get? a = some { cls := .type "tuple", data := .seq vs.toArray } → (∀ o, hp.get? e = some o → h'.get? e = some o) → Q (.ref a) ⟨h', g, d, tk, os⟩) : wpAny M A (newTuple vs) Q E ⟨hp, g, d, tk, os⟩ :=
  wpAny_newTuple (h _ _ ⟨fun b o _ ho => Heap.get?_push_of_some _ ho, by simp⟩ rfl (Heap.get?_push_size _ rfl) fun o ho => Heap.get?_push_of_some _ ho) (by rw [sizeLine_eq]; omega)
theorem begin_ude {t0 : Addr} {c b i j r : Value} {Q : Value × List Value → Shared → Prop} (ho : hp.get? e = some (exO [.ref t0, .none, .none, .none, .bool false, .none]))
    (h : ∀ h' ta, Gr e hp h' → h'.get? e = some (exO [.ref ta, .none, .none, .none, .bool false, .none, rawInt 0, rawInt 0, rawInt 0, rawInt 0, rawInt 0]) → Q (.ref e, [c, b, i, j, r]) ⟨h', g, d, tk, os⟩) :
    wpAny M A (beginInit "UnicodeDecodeError.__init__" 5 ⟨[.ref e, c, b, i, j, r], []⟩) Q E ⟨hp, g, d, tk, os⟩ := by
  unfold beginInit
  dsimp only
  rw [if_neg (by simp)]
  refine wpAny_bind (wpAny_field ho rfl rfl ?_)
  refine wpAny_bind (new_tup (e := e) (by simp) fun h1 ta G1 _ _ k1 => ?_)
  refine wpAny_bind (set_f (k1 _ ho) (by simp) fun h2 G2 e2 => ?_)
  refine wpAny_bind (wpAny_letGo ?_)
  rw [if_pos (by decide)]
  refine wpAny_bind (mem_none e2 rfl ?_)
  refine wpAny_bind (set_mem e2 (by simp) fun h3 G3 e3 => ?_)
  refine wpAny_bind (wpAny_letGo ?_)
  refine wpAny_bind (mem_five e3 rfl ?_)
  refine wpAny_bind (set_mem e3 (by simp) fun h4 G4 e4 => ?_)
  refine wpAny_bind (wpAny_letGo ?_)
  refine wpAny_bind (mem_five e4 rfl ?_)
  refine wpAny_bind (set_mem e4 (by simp) fun h5 G5 e5 => ?_)
  refine wpAny_bind (wpAny_letGo ?_)
  rw [if_neg (by simp)]
  exact wpAny_pure (h _ ta (G1.trans (G2.trans (G3.trans (G4.trans G5)))) e5)
theorem range_ude {t0 : Addr} {i j : Int} {t3 t4 : Tok} {Q : Unit → Shared → Prop} (hi : 0 ≤ i ∧ i < 100) (hj : 0 ≤ j ∧ j < 100) (ho : hp.get? e = some (exO [.ref t0, .none, .none, .none, .bool false, .none, rawInt 0, rawInt 0, rawInt 0, rawInt 0, rawInt 0]))
    (h : ∀ h', Gr e hp h' → h'.get? e = some (exO [.ref t0, .none, .none, .none, .bool false, .none, rawInt 0, rawInt 0, rawInt i, rawInt j, rawInt 0]) → Q () ⟨h', g, d, tk, os⟩) :
    wpAny M A (initRange "UnicodeDecodeError.__init__" (.ref e) (.int i t3) (.int j t4)) Q E ⟨hp, g, d, tk, os⟩ := by
  have sz : ∀ {k : Int} {t : Tok} {Q : Int → Shared → Prop} {s : Shared}, (0 ≤ k ∧ k < 100) → Q k s → wpAny M A (sizeArgument "UnicodeDecodeError.__init__" (.int k t)) Q E s := fun hk hq => by
    unfold sizeArgument asIndex
    refine wpAny_bind ?_
    refine wpAny_bind (wpAny_of_eq (a := some _) rfl ?_)
    refine wpAny_pure ?_
    rw [if_neg]
    · exact wpAny_pure hq
    · simp only [Bool.or_eq_true, decide_eq_true_eq, not_or]
      constructor <;> omega
  unfold initRange
  refine wpAny_bind (sz hi ?_)
  refine wpAny_bind (mem_five ho rfl ?_)
  refine wpAny_bind (set_mem ho (by simp) fun h1 G1 e1 => ?_)
  refine wpAny_bind (sz hj ?_)
  refine wpAny_bind (mem_five e1 rfl ?_)
  exact set_mem e1 (by simp) fun h2 G2 e2 => h _ (G1.trans G2) e2
theorem init_ude {t0 : Addr} {c r : Str} {b : Array UInt8} {t1 t2 t3 t4 t5 : Tok} {Q : Fin → Shared → Prop} (ho : hp.get? e = some (exO [.ref t0, .none, .none, .none, .bool false, .none]))
    (h : ∀ h' ta, Gr e hp h' → h'.get? e = some (exO [.ref ta, .none, .none, .none, .bool false, .none, .str c t1, .bytes b t2, rawInt 0, rawInt 1, .str r t5]) → Q (.done (.ret .none)) ⟨h', g, d, tk, os⟩) :
    wpAny M A («UnicodeDecodeError.__init__» ⟨[.ref e, .str c t1, .bytes b t2, .int 0 t3, .int 1 t4, .str r t5], []⟩) Q E ⟨hp, g, d, tk, os⟩ := by
  unfold «UnicodeDecodeError.__init__»
  refine wpAny_bind (begin_ude ho fun h1 ta G1 e1 => ?_)
  dsimp only
  refine wpAny_bind (wpAny_of_eq (a := ()) rfl ?_)
  refine wpAny_bind (range_ude (by decide) (by decide) e1 fun h2 G2 e2 => ?_)
  refine wpAny_bind (wpAny_of_eq (a := ()) rfl ?_)
  refine wpAny_bind (wpAny_of_eq (a := some b) rfl ?_)
  rw [if_pos (show (some b).isSome = true from rfl)]
  refine wpAny_bind (wpAny_pure ?_)
  rw [if_pos (show (!UnicodeEncodeError.isUnset (.bytes b t2)) = true from rfl)]
  refine wpAny_bind (wpAny_pure ?_)
  rw [if_neg (show ¬ (UnicodeEncodeError.isUnset (.bytes b t2) = true) from Bool.false_ne_true)]
  refine wpAny_bind (mem_five e2 rfl ?_)
  refine wpAny_bind (set_mem e2 (by simp) fun h3 G3 e3 => ?_)
  exact wpAny_pure (h _ ta (G1.trans (G2.trans G3)) e3)
end
end Mine
/- part DECB -/
set_option Elab.async false
set_option maxRecDepth 100000
set_option maxHeartbeats 1000000
namespace Mine
open Builtin
theorem run_wp {M : Model} {A : Around} {E : Value → Shared → Prop} {hp : Heap} {g : Array GenState} {d : Drawn} {tk : Nat} {os : OsState} {id : String} {Q : Array Nat × Nat → Shared → Prop}
   (h : wpAny M A (_codecs.decodeFault id { held := [] } (some (Str.ofString "replace")) ["ignore", "replace", "surrogateescape"] "utf-8" #[255] 0 1 "invalid start byte") (fun r s => Q ((#[] : Array Nat) ++ r.2.1, r.2.2) s) E ⟨hp, g, d, tk, os⟩) :
   wpAny M A (_codecs.runDecoder id _codecs.utf8Decoder (some (Str.ofString "replace")) true #[255] 0 []) Q E ⟨hp, g, d, tk, os⟩ := by
  unfold _codecs.runDecoder
  dsimp only
  refine wpAny_bind ?_
  simp only [Std.Legacy.Range.forIn_eq_forIn_range', Std.Legacy.Range.size, List.size_toArray, List.length]
  rw [show List.range' 0 ((0 + 1 - 0 + 1 - 1) / 1) = [0] from rfl, List.forIn_cons]
  refine wpAny_bind ?_
  rw [if_neg (by decide), if_neg (by decide)]
  rw [show _codecs.utf8Decoder.find true #[255] 0 = .bad 1 "invalid start byte" false from by kernel_rfl]
  dsimp only
  rw [if_neg (by decide)]
  refine wpAny_bind (wpAny_rule (wpAny_bind (wpAny_mono h (fun r s hq => ?_) fun _ _ e => e)))
  refine wpAny_pure ?_
  dsimp only
  rw [List.forIn_nil]
  exact wpAny_pure (wpAny_pure hq)
theorem ude_call {prog : Program} {w : World} {A : Around} {E : Value → Shared → Prop} {hp : Heap} {g : Array GenState} {d : Drawn} {tk : Nat} {os : OsState} {c r : Str} {b : Array UInt8} {t1 t2 t3 t4 t5 : Tok} {Q : Value → Shared → Prop}
    (h : ∀ h' e ta, (∀ b o, hp.get? b = some o → h'.get? b = some o) → h'.get? e = some { cls := .type "UnicodeDecodeError", data := .fields #[.ref ta, .none, .none, .none, .bool false, .none, .str c t1, .bytes b t2, rawInt 0, rawInt 1, .str r t5] } → Q (.ref e) ⟨h', g, d, tk, os⟩) :
    wpAny (model prog w) A (call (.type "UnicodeDecodeError") [.str c t1, .bytes b t2, .int 0 t3, .int 1 t4, .str r t5]) Q E ⟨hp, g, d, tk, os⟩ := by
  refine wpAny_call (codeAny_of_tree ?_)
  show wpAny _ _ (again (.builtin "type.__call__" ⟨.type "UnicodeDecodeError" :: _, []⟩)) _ _ _
  refine wpAny_pure ⟨Code.quiet_builtin _ (by decide +kernel), codeAny_builtin entry_typeCall ?_⟩
  have hnt := ude_notType
  have hcan := ude_canMake
  have hchk := ude_noVector ⟨[.str c t1, .bytes b t2, .int 0 t3, .int 1 t4, .str r t5], []⟩
  obtain ⟨m, hmro, hne⟩ := ude_mro
  have hmade := ude_madeBy
  wp_walk
  refine codeAny_call_builtin_code (Code.quiet_builtin _ (by decide +kernel)) (wpAny_of_eq (ude_newOk _) ?_)
  refine codeAny_exc_new ude_new ?_
  show wpAny _ _ _ _ _ _
  have hget : ((hp.push { cls := .type "tuple", data := .seq [.str c t1, .bytes b t2, .int 0 t3, .int 1 t4, .str r t5].toArray }).push
      { cls := .type "UnicodeDecodeError", data := .fields #[.ref hp.objs.size, .none, .none, .none, .bool false, .none] }).get? (hp.objs.size + 1) = some
      { cls := .type "UnicodeDecodeError", data := .fields #[.ref hp.objs.size, .none, .none, .none, .bool false, .none] } := by heap_get
  refine wpAny_bind (wpAny_isInstance ⟨_, hget, rfl⟩ ude_new.sub ?_)
  wp_step
  refine wpAny_bind (wpAny_holding (wpAny_callSpecial?_slot ⟨_, hget, rfl⟩ ude_init (wpAny_call (codeAny_call_builtin ude_init.plain ude_initEntry ?_))))
  · simp only [checkBuiltinCall, ude_initKind, ude_initSplit, ude_initRow]
    refine wpAny_bind (wpAny_isInstance ⟨_, hget, rfl⟩ ude_new.sub ?_)
    simp only [Bool.not_true, Bool.false_eq_true, if_false]
    unfold Bind.checkArgs
    dsimp only
    refine wpAny_pure ?_
    refine init_ude (e := hp.objs.size + 1) hget fun h' ta G1 e1 => ?_
    dsimp only
    wp_walk
    refine h _ _ ta (fun b o ho => G1.keep b o (Nat.ne_of_lt (Nat.lt_succ_of_lt (Heap.lt_size ho))) (Heap.get?_push_of_some _ (Heap.get?_push_of_some _ ho))) e1
end Mine
/- part DECD -/
set_option Elab.async false
set_option maxRecDepth 100000
set_option maxHeartbeats 1000000
namespace Mine
open Builtin
open UnicodeEncodeError (members setMembers Members beginInit strArgument initRange sizeArgument)
theorem ude_tr : isSubtype (.type "UnicodeDecodeError") (.type "UnicodeTranslateError") = pure false := by rw [isSubtype_type]; kernel_rfl
theorem kind_rep : builtinKind "_codecs.lookup_error.replace_errors" = none := by decide +kernel
theorem plain_rep : plainId "_codecs.lookup_error.replace_errors" = true := by decide +kernel
theorem entry_rep : entryFor table "_codecs.lookup_error.replace_errors" = some Builtin.«_codecs.lookup_error.replace_errors» := entryFor_of_tree (by kernel_rfl)
theorem args_rep (a : Value) : argsOk "_codecs.lookup_error.replace_errors" ⟨[a], []⟩ := by unfold argsOk; kernel_rfl
section
variable {M : Model} {A : Around} {E : Value → Shared → Prop} {hp : Heap} {g : Array GenState} {d : Drawn} {tk : Nat} {os : OsState} {e : Addr}
theorem meets_rep {ta : Addr} {c r : Value} {t2 : Tok} :
    Meets («_codecs.lookup_error.replace_errors» ⟨[.ref e], []⟩) (fun _ R s => s.heap.get? e = some (exO [.ref ta, .none, .none, .none, .bool false, .none, c, .bytes #[255] t2, rawInt 0, rawInt 1, r]) ∧
      ∀ h' a k u1 u2, (∀ b o, s.heap.get? b = some o → h'.get? b = some o) → h'.get? a = some { cls := .type "tuple", data := .seq #[.str ⟨#[0xFFFD]⟩ u1, .int 1 u2] } → R (.ok (.ret (.ref a))) { s with heap := h', toks := k }) := by
  refine .of_wp fun prog w A R s hS => ?_
  obtain ⟨hp, g, d, tk, os⟩ := s
  obtain ⟨ho, h⟩ := hS
  unfold «_codecs.lookup_error.replace_errors»
  refine wpAny_bind (wpAny_of_eq (a := .ref e) rfl ?_)
  refine wpAny_bind ?_
  unfold _codecs.seen
  refine wpAny_bind (wpAny_isInstance (v := .ref e) (T := "UnicodeDecodeError") ⟨_, ho, rfl⟩ ude_enc ?_)
  refine wpAny_bind (wpAny_isInstance (v := .ref e) (T := "UnicodeDecodeError") ⟨_, ho, rfl⟩ ude_new.sub ?_)
  refine wpAny_bind (wpAny_isInstance (v := .ref e) (T := "UnicodeDecodeError") ⟨_, ho, rfl⟩ ude_tr ?_)
  rw [if_neg Bool.false_ne_true, if_pos rfl]
  refine wpAny_bind (wpAny_pure ?_)
  dsimp only
  rw [if_neg (by decide)]
  refine wpAny_bind (mem_five ho rfl ?_)
  dsimp only
  rw [if_neg (show ¬ (UnicodeEncodeError.isUnset (.bytes #[255] t2) = true) from Bool.false_ne_true)]
  rw [if_pos (show (_codecs.Kind.decode == _codecs.Kind.decode) = true from rfl)]
  refine wpAny_bind (wpAny_pure ?_)
  rw [if_neg (by simp)]
  refine wpAny_pure ?_
  dsimp only
  rw [if_pos (show (_codecs.Kind.decode == _codecs.Kind.decode) = true from rfl)]
  unfold _codecs.answer
  refine wpAny_bind (wpAny_mkStr (x := ⟨#[0xFFFD]⟩) ?_ (by decide))
  refine wpAny_bind (wpAny_mkInt ?_)
  rw [show (Min.min (Max.max (1 : Int) 1) ((Array.map (fun x => x.toNat) (#[255] : Array UInt8)).size : Nat) : Int) = 1 from by simp]
  refine wpAny_bind (wpAny_newTuple ?_ (by simp [sizeLine_eq]))
  exact (wpAny_pure ⟨_, rfl, h _ _ _ _ _ (fun b o hb => Heap.get?_push_of_some _ hb) (Heap.get?_push_size _ rfl)⟩)
end
section
variable {prog : Program} {w : World} {A : Around} {E : Value → Shared → Prop} {hp : Heap} {g : Array GenState} {d : Drawn} {tk : Nat} {os : OsState} {e : Addr}
theorem fault_wp {id : String} {Q : _codecs.Faults × Array Nat × Nat → Shared → Prop} (h : ∀ f h' k, (∀ b o, hp.get? b = some o → h'.get? b = some o) → Q (f, #[0xFFFD], 1) ⟨h', g, d, k, os⟩) :
    wpAny (model prog w) A (_codecs.decodeFault id { held := [] } (some (Str.ofString "replace")) ["ignore", "replace", "surrogateescape"] "utf-8" #[255] 0 1 "invalid start byte") Q E ⟨hp, g, d, tk, os⟩ := by
  unfold _codecs.decodeFault
  refine wpAny_bind (wpAny_of_eq (a := .builtin "_codecs.lookup_error.replace_errors") (by kernel_rfl) ?_)
  refine wpAny_bind (wpAny_holding ?_)
  wp_delta
  dsimp only
  refine wpAny_bind (wpAny_mkStr' ?_ (by decide))
  refine wpAny_bind (wpAny_mkBytes ?_ (by decide))
  refine wpAny_bind (wpAny_mkInt' ?_)
  refine wpAny_bind (wpAny_mkInt' ?_)
  refine wpAny_bind (wpAny_mkStr' ?_ (by decide))
  refine ude_call fun h1 e ta k1 e1 => ?_
  refine wpAny_bind ?_
  wp_delta
  refine wpAny_bind (mem_five e1 rfl ?_)
  dsimp only
  rw [if_pos (show List.isEmpty ([] : List Value) = true from rfl)]
  refine wpAny_bind (wpAny_holding ?_)
  refine call_function_meets kind_rep plain_rep entry_rep (args_rep _) meets_rep ⟨e1, fun h2 a k u1 u2 k2 e2 => ?_⟩
  refine wpAny_bind (mem_five (k2 _ _ e1) rfl ?_)
  dsimp only
  rw [if_neg]
  case hnc => show ¬ ((!(((_ : Tok) == _) && ((_ : Array UInt8) == _))) = true); simp
  refine wpAny_pure ?_
  refine wpAny_holding ?_
  refine wpAny_bind ?_
  wp_delta
  refine wpAny_bind (wpAny_isInstance (v := .ref a) (T := "tuple") ⟨_, e2, rfl⟩ ude_tup ?_)
  rw [if_neg (by decide)]
  refine wpAny_bind (wpAny_seqItems e2 rfl ?_)
  refine wpAny_pure ?_
  dsimp only
  refine wpAny_bind (wpAny_of_eq (a := some ⟨#[0xFFFD]⟩) rfl ?_)
  dsimp only
  refine wpAny_bind (wpAny_of_eq (a := (1 : Int)) (by kernel_rfl) ?_)
  refine wpAny_bind (wpAny_of_eq (a := (1 : Nat)) (by kernel_rfl) ?_)
  exact wpAny_pure (h _ h2 k fun b o hb => k2 _ _ (k1 _ _ hb))
end
theorem meets_textB {t t1 t2 td : Tok} {dn : Str} :
    Meets («_codecs.decode.text» ⟨[.bytes #[255] t, .str (PySem.Str.ofString "utf-8") t1, .str (PySem.Str.ofString "replace") t2, .str dn td], []⟩) (fun _ R s => ∀ h' k t', (∀ b o, s.heap.get? b = some o → h'.get? b = some o) → R (.ok (.ret (.str ⟨#[0xFFFD]⟩ t'))) { s with heap := h', toks := k }) := by
  refine .of_wp fun prog w A R s hS => ?_
  obtain ⟨hp, g, d, tk, os⟩ := s
  show wpAny _ _ (Bytes.bytesLike _ (.bytes #[255] t) >>= fun r => _) _ _ _
  refine wpAny_bind (wpAny_of_eq KBd.like_eq ?_)
  refine wpAny_bind (wpAny_of_eq KBd.held_eq ?_)
  show wpAny _ _ (_codecs.decodeRoad _ #[255] (PySem.Str.ofString "utf-8") (some (PySem.Str.ofString "replace")) [] >>= fun v => _) _ _ _
  rw [road]
  refine wpAny_bind (wpAny_bind (run_wp (fault_wp fun f h' k kk => ?_)))
  exact wpAny_mkStr' (x := ⟨#[0xFFFD]⟩) (wpAny_pure ⟨_, rfl, hS _ _ _ kk⟩) (by decide)
theorem meets_decB {t t1 t2 : Tok} :
    Meets («bytes.decode» ⟨[.bytes #[255] t, .str (Str.ofString "utf-8") t1, .str (Str.ofString "replace") t2], []⟩) (fun _ R s => ∀ h' k t', (∀ b o, s.heap.get? b = some o → h'.get? b = some o) → R (.ok (.ret (.str ⟨#[0xFFFD]⟩ t'))) { s with heap := h', toks := k }) := by
  refine .of_wp fun prog w A R s hS => ?_
  rw [dec_entry]
  refine wpAny_bind (wpAny_mkStr ?_ (by decide))
  refine wpAny_bind (wpAny_mkStr ?_ (by decide))
  refine wpAny_bind (wpAny_mkStr ?_ (by decide))
  refine wpAny_bind (wpAny_mkStr ?_ (by decide))
  exact wpAny_bind (call_function_meets KBd.kind_text KBd.plain_text KBd.entry_text (KBd.args_text _ _ _ _) meets_textB fun h' k t' kk => wpAny_pure ⟨_, rfl, hS _ _ _ kk⟩)
theorem args_dec3 (a b c : Value) : argsOk "bytes.decode" ⟨[a, b, c], []⟩ := by
  unfold argsOk; rw [signature?_of (id := "bytes.decode") (n := ['e', 'd', 'o', 'c', 'e', 'd']) (o := ['s', 'e', 't', 'y', 'b']) (by kernel_rfl) FB.owner_bytes]; kernel_rfl
theorem dec_bad {prog : Program} {w : World} {A : Around} {E : Value → Shared → Prop} {s : Shared} {t t1 t2 : Tok} {Q : Value → Shared → Prop} (h : ∀ h' k t', (∀ b o, s.heap.get? b = some o → h'.get? b = some o) → Q (.str ⟨#[0xFFFD]⟩ t') { s with heap := h', toks := k }) :
    wpAny (model prog w) A (call (.builtin "bytes.decode") [.bytes #[255] t, .str (Str.ofString "utf-8") t1, .str (Str.ofString "replace") t2]) Q E s :=
  call_meets FB.slot_bytes_decode (typeIs_bytes _ _ _) FB.entry_bytes_decode (args_dec3 _ _ _) meets_decB h
/-- the same for a good octet -/
theorem dec_entry1 {t t1 t2 : Tok} : «bytes.decode» ⟨[.bytes #[111] t, .str (Str.ofString "utf-8") t1, .str (Str.ofString "replace") t2], []⟩ = (mkStr (PySem.Str.ofString "utf-8") >>= fun _ => mkStr (PySem.Str.ofString "utf-8") >>= fun e => mkStr (PySem.Str.ofString "replace") >>= fun r => mkStr (PySem.Str.ofString "bytes.decode") >>= fun d =>
    call (.builtin "_codecs.decode.text") [.bytes #[111] t, e, r, d] >>= fun v => ret v) := by kernel_rfl
theorem road1 {id : String} : _codecs.decodeRoad id #[111] (Str.ofString "utf-8") (some (Str.ofString "replace")) [] = (_codecs.runDecoder id _codecs.utf8Decoder (some (Str.ofString "replace")) true #[111] 0 [] >>= fun r => mkStr ⟨r.1⟩) := by kernel_rfl
theorem run_eq1 {id : String} : _codecs.runDecoder id _codecs.utf8Decoder (some (Str.ofString "replace")) true #[111] 0 [] = pure (#[111], 1) := by kernel_rfl
theorem meets_text1 {t t1 t2 td : Tok} {dn : Str} :
    Meets («_codecs.decode.text» ⟨[.bytes #[111] t, .str (PySem.Str.ofString "utf-8") t1, .str (PySem.Str.ofString "replace") t2, .str dn td], []⟩) (fun _ R s => ∀ k t', R (.ok (.ret (.str ⟨#[111]⟩ t'))) { s with toks := k }) := by
  refine .of_wp fun prog w A R s hS => ?_
  show wpAny _ _ (Bytes.bytesLike _ (.bytes #[111] t) >>= fun r => _) _ _ _
  refine wpAny_bind (wpAny_of_eq KBd.like_eq ?_)
  refine wpAny_bind (wpAny_of_eq KBd.held_eq ?_)
  show wpAny _ _ (_codecs.decodeRoad _ #[111] (PySem.Str.ofString "utf-8") (some (PySem.Str.ofString "replace")) [] >>= fun v => _) _ _ _
  rw [road1, run_eq1]
  refine wpAny_bind (wpAny_bind (wpAny_pure ?_))
  exact wpAny_mkStr (wpAny_pure ⟨_, rfl, hS _ _⟩) (by decide)
theorem meets_dec1 {t t1 t2 : Tok} :
    Meets («bytes.decode» ⟨[.bytes #[111] t, .str (Str.ofString "utf-8") t1, .str (Str.ofString "replace") t2], []⟩) (fun _ R s => ∀ k t', R (.ok (.ret (.str ⟨#[111]⟩ t'))) { s with toks := k }) := by
  refine .of_wp fun prog w A R s hS => ?_
  rw [dec_entry1]
  refine wpAny_bind (wpAny_mkStr ?_ (by decide))
  refine wpAny_bind (wpAny_mkStr ?_ (by decide))
  refine wpAny_bind (wpAny_mkStr ?_ (by decide))
  refine wpAny_bind (wpAny_mkStr ?_ (by decide))
  exact wpAny_bind (call_function_meets KBd.kind_text KBd.plain_text KBd.entry_text (KBd.args_text _ _ _ _) meets_text1 fun k t' => wpAny_pure ⟨_, rfl, hS _ _⟩)
theorem dec_good {prog : Program} {w : World} {A : Around} {E : Value → Shared → Prop} {s : Shared} {t t1 t2 : Tok} {Q : Value → Shared → Prop} (h : ∀ k t', Q (.str ⟨#[111]⟩ t') { s with toks := k }) :
    wpAny (model prog w) A (call (.builtin "bytes.decode") [.bytes #[111] t, .str (Str.ofString "utf-8") t1, .str (Str.ofString "replace") t2]) Q E s :=
  call_meets FB.slot_bytes_decode (typeIs_bytes _ _ _) FB.entry_bytes_decode (args_dec3 _ _ _) meets_dec1 h
end Mine
/- part TOW -/
set_option Elab.async false
set_option maxRecDepth 100000
set_option maxHeartbeats 8000000
namespace Mine
theorem fill_aTOW : PySem.Challenge.rw_ft5041_01 = PySem.Challenge.rw_ft5041_01 ∧ Mine.hd.heap_39 = Mine.hd.heap_39 := by
  k_fill
  exact ⟨rfl, rfl⟩
local macro_rules | `(tactic| walk_at "mBind") => `(tactic| first | exact BindsTo.of_eq rfl | exact binds_K (by k_in) rfl (by k_is) rfl rfl rfl)
theorem dec_badF {prog : Program} {w : World} {A : Around} {E : Value → Shared → Prop} {s : Shared} {h₀ : Heap} {L : Addr} {m : Str → Option Value} {news : List (Addr × Obj)} {t t1 t2 : Tok} {Q : Value → Shared → Prop} (F : Fr h₀ L s.heap m) (N : News h₀ L s.heap news) (h : ∀ h' k t', Fr h₀ L h' m → News h₀ L h' news → Q (.str ⟨#[0xFFFD]⟩ t') { s with heap := h', toks := k }) :
    wpAny (model prog w) A (call (.builtin "bytes.decode") [.bytes #[255] t, .str (Str.ofString "utf-8") t1, .str (Str.ofString "replace") t2]) Q E s :=
  dec_bad fun h' k t' kk => h h' k t' (F.keeps kk) (N.keeps kk)
local macro_rules | `(tactic| walk_at "call builtin:bytes.decode") => `(tactic| (k_here; (k_dflt (show wpAny _ _ (PySem.call (Value.builtin "bytes.decode") [Value.bytes _ _, Value.str _ _, Value.str _ _]) _ _ _)); first | (k_dflt (refine dec_good ?_); intro k9 t9) | (k_dflt (refine dec_badF (by with_reducible assumption) (by with_reducible assumption) ?_); intro h9 k9 t9 F9 N9)))
section
variable {w : World} {news : List (Addr × Obj)}
theorem tow_str (x : Str) (t : Tok) : Ct w 1 632 [.str x t] news fun r n => n = news ∧ ∃ t, r = .str x t := by
  unfold Ct
  intros
  rename_i hret
  k_dflt (refine' code_def (binds := [(Str.ofString "s", .str x t)]) ?k1 ?k2 ?k3 ?k4 ?k5 ?kA ?kF ?kK ?k6 ?k7 ?k8 ?k9 ?kB ?_ ?c2 ?c3 ?c4 ?c5; (case kA => exact rfl); (case kF => exact rfl); (case kK => assumption); (case k1 => k_asm); (case k2 => k_asm); (case k3 => k_asm); (case k4 => k_asm); (case k5 => k_asm); (case k6 => k_is); (case k7 => k_is); (case k8 => ktr_room); (case k9 => walk_at "mBind"); (case c5 => decide); (case kB => exact locs rfl); (case c2 => exact rfl); (case c3 => exact rfl); (case c4 => exact rfl); k_whole; intro g' L' h' FG' F' N' B' X' T'; (try dsimp only); (try simp only [List.reverse_cons, List.reverse_nil, List.nil_append, List.cons_append] at F'); (try k_fold))
  k_steps
  exact hret _ _ _ _ ⟨rfl, _, rfl⟩ (by assumption) (by assumption)
theorem tow_oct (t : Tok) : Ct w 1 632 [.bytes #[111] t] news fun r n => n = news ∧ ∃ t, r = .str (Str.ofString "o") t := by
  unfold Ct
  intros
  rename_i hret
  k_dflt (refine' code_def (binds := [(Str.ofString "s", .bytes #[111] t)]) ?k1 ?k2 ?k3 ?k4 ?k5 ?kA ?kF ?kK ?k6 ?k7 ?k8 ?k9 ?kB ?_ ?c2 ?c3 ?c4 ?c5; (case kA => exact rfl); (case kF => exact rfl); (case kK => assumption); (case k1 => k_asm); (case k2 => k_asm); (case k3 => k_asm); (case k4 => k_asm); (case k5 => k_asm); (case k6 => k_is); (case k7 => k_is); (case k8 => ktr_room); (case k9 => walk_at "mBind"); (case c5 => decide); (case kB => exact locs rfl); (case c2 => exact rfl); (case c3 => exact rfl); (case c4 => exact rfl); k_whole; intro g' L' h' FG' F' N' B' X' T'; (try dsimp only); (try simp only [List.reverse_cons, List.reverse_nil, List.nil_append, List.cons_append] at F'); (try k_fold))
  k_steps
  exact hret _ _ _ _ ⟨rfl, _, rfl⟩ (by assumption) (by assumption)
theorem tow_bad (t : Tok) : Ct w 1 632 [.bytes #[255] t] news fun r n => n = news ∧ ∃ t, r = .str (Str.ofString "\uFFFD") t := by
  unfold Ct
  intros
  rename_i hret
  k_dflt (refine' code_def (binds := [(Str.ofString "s", .bytes #[255] t)]) ?k1 ?k2 ?k3 ?k4 ?k5 ?kA ?kF ?kK ?k6 ?k7 ?k8 ?k9 ?kB ?_ ?c2 ?c3 ?c4 ?c5; (case kA => exact rfl); (case kF => exact rfl); (case kK => assumption); (case k1 => k_asm); (case k2 => k_asm); (case k3 => k_asm); (case k4 => k_asm); (case k5 => k_asm); (case k6 => k_is); (case k7 => k_is); (case k8 => ktr_room); (case k9 => walk_at "mBind"); (case c5 => decide); (case kB => exact locs rfl); (case c2 => exact rfl); (case c3 => exact rfl); (case c4 => exact rfl); k_whole; intro g' L' h' FG' F' N' B' X' T'; (try dsimp only); (try simp only [List.reverse_cons, List.reverse_nil, List.nil_append, List.cons_append] at F'); (try k_fold))
  k_steps
  exact hret _ _ _ _ ⟨rfl, _, rfl⟩ (by assumption) (by assumption)
theorem tow_num (t : Tok) : Ct w 1 632 [.int 7 t] news fun r n => n = news ∧ ∃ t, r = .str (Str.ofString "7") t := by
  unfold Ct
  intros
  rename_i hret
  k_dflt (refine' code_def (binds := [(Str.ofString "s", .int 7 t)]) ?k1 ?k2 ?k3 ?k4 ?k5 ?kA ?kF ?kK ?k6 ?k7 ?k8 ?k9 ?kB ?_ ?c2 ?c3 ?c4 ?c5; (case kA => exact rfl); (case kF => exact rfl); (case kK => assumption); (case k1 => k_asm); (case k2 => k_asm); (case k3 => k_asm); (case k4 => k_asm); (case k5 => k_asm); (case k6 => k_is); (case k7 => k_is); (case k8 => ktr_room); (case k9 => walk_at "mBind"); (case c5 => decide); (case kB => exact locs rfl); (case c2 => exact rfl); (case c3 => exact rfl); (case c4 => exact rfl); k_whole; intro g' L' h' FG' F' N' B' X' T'; (try dsimp only); (try simp only [List.reverse_cons, List.reverse_nil, List.nil_append, List.cons_append] at F'); (try k_fold))
  k_steps
  exact hret _ _ _ _ ⟨rfl, _, rfl⟩ (by assumption) (by assumption)
theorem tow_none : Ct w 1 632 [.none] news fun r n => n = news ∧ ∃ t, r = .str (Str.ofString "None") t := by
  unfold Ct
  intros
  rename_i hret
  k_dflt (refine' code_def (binds := [(Str.ofString "s", .none)]) ?k1 ?k2 ?k3 ?k4 ?k5 ?kA ?kF ?kK ?k6 ?k7 ?k8 ?k9 ?kB ?_ ?c2 ?c3 ?c4 ?c5; (case kA => exact rfl); (case kF => exact rfl); (case kK => assumption); (case k1 => k_asm); (case k2 => k_asm); (case k3 => k_asm); (case k4 => k_asm); (case k5 => k_asm); (case k6 => k_is); (case k7 => k_is); (case k8 => ktr_room); (case k9 => walk_at "mBind"); (case c5 => decide); (case kB => exact locs rfl); (case c2 => exact rfl); (case c3 => exact rfl); (case c4 => exact rfl); k_whole; intro g' L' h' FG' F' N' B' X' T'; (try dsimp only); (try simp only [List.reverse_cons, List.reverse_nil, List.nil_append, List.cons_append] at F'); (try k_fold))
  k_steps
  exact hret _ _ _ _ ⟨rfl, _, rfl⟩ (by assumption) (by assumption)
end
theorem ct_tow {w : World} {v : Value} {p : Str} (hp : Pair v p) (news : List (Addr × Obj)) : Ct w 1 632 [v] news fun r n => n = news ∧ ∃ t, r = .str p t := by
  cases hp with
  | str _ t => exact tow_str _ t
  | oct t => exact tow_oct t
  | bad t => exact tow_bad t
  | num t => exact tow_num t
  | none => exact tow_none

end Mine
/- part C4a -/
set_option Elab.async false
set_option maxRecDepth 100000
set_option maxHeartbeats 8000000
namespace Mine
theorem fill_C4a : PySem.Challenge.rw_ft5041_01 = PySem.Challenge.rw_ft5041_01 ∧ Mine.hd.heap_39 = Mine.hd.heap_39 := by
  k_fill
  exact ⟨rfl, rfl⟩
section
variable {w : World} {x dx : Addr} {news : List (Addr × Obj)} {f : Str → Option (Option Value)} {es : List DictEntry} {n : Nat} {e : Value} {u d q : Str} {v : Value} {g : Obj → List (Addr × Obj)}
  {p : Program} {loose : List Str} {mean : ExcName → Option Value} {mg mb : Str → Option Value} {dp un : Nat} {gd : Option (List Code)} {cn : Str} {cs : Scope} {a : Addr} {ccd : Value} {cl : List (Str × Addr)} {outer : List Env}
    {A₀ : Around} {base h₀ : Heap} {L : Addr} {m : Str → Option Value} {s : Shared} {E : Value → Shared → Prop} {expr : Bool}
theorem s_tow (hp : Pair v q) (B : Below A₀ base outer h₀) (F : Fr h₀ L s.heap m) (X : (Mine.hd.heap_39 w.params).In h₀) (N : News h₀ L s.heap news) (T' : Top p loose mean mg mb h₀) (hk : cs.kind = .function) (hd' : dp + 2 * 1 < recursionLimit) (hu : un + 0 + 10 * 1 < cLine) {Q : Value → Shared → Prop} (h : ∀ (t : Tok) (h' : Heap) (tk' : Nat), Fr h₀ L h' m → News h₀ L h' news → Q (.str q t) { s with heap := h', toks := tk' }) :
    wpAny (model PR w) (ktrTop dp un gd cn cs L a ccd cl outer) (call (.ref 632) [v]) Q E s :=
  (ct_tow hp news).call B F X N T' hk hd' hu fun _ _ h' tk' r F' N' => by
    obtain ⟨rfl, t, rfl⟩ := r
    exact h t h' tk' F' N'
theorem s_user (hx : (x, instObj 522 dx) ∈ news) (hdx : (dx, dictOf es n) ∈ news) (T : TD f es e u d) (B : Below A₀ base outer h₀) (F : Fr h₀ L s.heap m) (X : (Mine.hd.heap_39 w.params).In h₀) (N : News h₀ L s.heap news) (T' : Top p loose mean mg mb h₀) (hk : cs.kind = .function) (hd' : dp + 2 * 1 < recursionLimit) (hu : un + 1 + 10 * 1 < cLine) {Q : Value → Shared → Prop} (h : ∀ (t : Tok) (h' : Heap) (tk' : Nat), Fr h₀ L h' m → News h₀ L h' news → Q (.str u t) { s with heap := h', toks := tk' }) :
    wpAny (model PR w) (ktrTop dp un gd cn cs L a ccd cl outer) (getAttr (.ref x) (Str.ofString "user") expr) Q E s :=
  p_get (ct_user_get hx hdx T) (by k_is) (by k_is) (by k_is) (by k_is) (by k_is) (by k_is) B F X N T' hk hd' hu hx hdx fun _ _ h' tk' r F' N' => by
    obtain ⟨rfl, t, rfl⟩ := r
    exact ⟨rfl, h t h' tk' F' N'⟩
theorem s_desc (hx : (x, instObj 522 dx) ∈ news) (hdx : (dx, dictOf es n) ∈ news) (T : TD f es e u d) (B : Below A₀ base outer h₀) (F : Fr h₀ L s.heap m) (X : (Mine.hd.heap_39 w.params).In h₀) (N : News h₀ L s.heap news) (T' : Top p loose mean mg mb h₀) (hk : cs.kind = .function) (hd' : dp + 2 * 1 < recursionLimit) (hu : un + 1 + 10 * 1 < cLine) {Q : Value → Shared → Prop} (h : ∀ (t : Tok) (h' : Heap) (tk' : Nat), Fr h₀ L h' m → News h₀ L h' news → Q (.str d t) { s with heap := h', toks := tk' }) :
    wpAny (model PR w) (ktrTop dp un gd cn cs L a ccd cl outer) (getAttr (.ref x) (Str.ofString "description") expr) Q E s :=
  p_get (ct_desc_get hx hdx T) (by k_is) (by k_is) (by k_is) (by k_is) (by k_is) (by k_is) B F X N T' hk hd' hu hx hdx fun _ _ h' tk' r F' N' => by
    obtain ⟨rfl, t, rfl⟩ := r
    exact ⟨rfl, h t h' tk' F' N'⟩
theorem s_ext2 (hv : handedIn e = true) (hx : (x, instObj 522 dx) ∈ news) (hdx : (dx, dictOf es n) ∈ news) (T : TD f es e u d) (B : Below A₀ base outer h₀) (F : Fr h₀ L s.heap m) (X : (Mine.hd.heap_39 w.params).In h₀) (N : News h₀ L s.heap news) (T' : Top p loose mean mg mb h₀) (hk : cs.kind = .function) (hd' : dp + 2 * 1 < recursionLimit) (hu : un + 1 + 10 * 1 < cLine) {Q : Value → Shared → Prop} (h : ∀ (h' : Heap) (tk' : Nat), Fr h₀ L h' m → News h₀ L h' news → Q e { s with heap := h', toks := tk' }) :
    wpAny (model PR w) (ktrTop dp un gd cn cs L a ccd cl outer) (getAttr (.ref x) (Str.ofString "_extension") expr) Q E s :=
  p_get (ct_ext_get hx hdx T hv) (by k_is) (by k_is) (by k_is) (by k_is) (by k_is) (by k_is) B F X N T' hk hd' hu hx hdx fun _ _ h' tk' r F' N' => by
    obtain ⟨rfl, rfl⟩ := r
    exact ⟨hv, h h' tk' F' N'⟩
theorem s_setExt2 (U : UpdF dx (dictOf es n) news g) (hx : (x, instObj 522 dx) ∈ news) (hdx : (dx, dictOf es n) ∈ news) (T : TD f es e u d) (B : Below A₀ base outer h₀) (F : Fr h₀ L s.heap m) (X : (Mine.hd.heap_39 w.params).In h₀) (N : News h₀ L s.heap news) (T' : Top p loose mean mg mb h₀) (hk : cs.kind = .function) (hd' : dp + 2 * 1 < recursionLimit) (hu : un + 2 + 10 * 1 < cLine) {Q : Unit → Shared → Prop} (h : ∀ (h' : Heap) (tk' : Nat) (es' : List DictEntry) (n' : Nat), TD f es' v u d → Fr h₀ L h' m → News h₀ L h' (g (dictOf es' n')) → Q () { s with heap := h', toks := tk' }) :
    wpAny (model PR w) (ktrTop dp un gd cn cs L a ccd cl outer) (setAttr (.ref x) (Str.ofString "_extension") v) Q E s :=
  q_set (ct_ext_set hx hdx T U) (by k_is) (by k_is) (by k_is) (by k_is) (by k_is) B F X N T' hk hd' hu hx hdx fun _ _ h' tk' r F' N' => by
    obtain ⟨_, es', n', T', rfl⟩ := r
    exact h h' tk' es' n' T' F' N'
end
end Mine
/- part C4 -/
set_option Elab.async false
set_option maxRecDepth 100000
set_option maxHeartbeats 8000000
namespace Mine
theorem fill_aC4 : PySem.Challenge.rw_ft5041_01 = PySem.Challenge.rw_ft5041_01 ∧ Mine.hd.heap_39 = Mine.hd.heap_39 := by
  k_fill
  exact ⟨rfl, rfl⟩
theorem fill_C4 : PySem.Challenge.rw_ft5041_01 = PySem.Challenge.rw_ft5041_01 ∧ Mine.hd.heap_39 = Mine.hd.heap_39 := by
  k_fill
  exact ⟨rfl, rfl⟩
local macro_rules | `(tactic| k_mem) => `(tactic| with_reducible assumption)
local macro_rules | `(tactic| k_updF) => `(tactic| with_reducible assumption)
local macro_rules | `(tactic| walk_at "mA") => `(tactic| with_reducible assumption)
local macro_rules | `(tactic| walk_at "mK") => `(tactic| first | with_reducible assumption | rfl)
local macro_rules | `(tactic| walk_at "getAttr ref") => `(tactic| (k_here; (with_reducible show wpAny _ _ (getAttr (Value.ref _) (PySem.Str.ofString "extension") _) _ _ _); refine t_ext (by walk_at "mA") (by walk_at "mA") (by walk_at "mA") (by walk_at "mA") (by walk_at "mA") (by walk_at "mA") (by walk_at "mA") ?_))
local macro_rules | `(tactic| walk_at "getAttr ref") => `(tactic| (k_here; (with_reducible show wpAny _ _ (getAttr (Value.ref _) (PySem.Str.ofString "user") _) _ _ _); k_dflt (refine s_user (by walk_at "mA") (by walk_at "mA") (by walk_at "mA") (by walk_at "mA") (by walk_at "mA") (by walk_at "mA") (by walk_at "mA") (by walk_at "mA") (by walk_at "mK") (by ktr_room) (by ktr_units) ?_); intro t9 h9 tk9 F9 N9))
local macro_rules | `(tactic| walk_at "getAttr ref") => `(tactic| (k_here; (with_reducible show wpAny _ _ (getAttr (Value.ref _) (PySem.Str.ofString "description") _) _ _ _); k_dflt (refine s_desc (by walk_at "mA") (by walk_at "mA") (by walk_at "mA") (by walk_at "mA") (by walk_at "mA") (by walk_at "mA") (by walk_at "mA") (by walk_at "mA") (by walk_at "mK") (by ktr_room) (by ktr_units) ?_); intro t9 h9 tk9 F9 N9))
local macro_rules | `(tactic| walk_at "setAttr ref") => `(tactic| (k_here; (with_reducible show wpAny _ _ (setAttr (Value.ref _) (PySem.Str.ofString "_user") _) _ _ _); refine t_setUser (by walk_at "mA") (by walk_at "mA") (by walk_at "mA") (by walk_at "mA") (by walk_at "mA") (by walk_at "mA") (by walk_at "mA") ?_; intro h9 es9 n9 T9 F9 N9))
local macro_rules | `(tactic| walk_at "setAttr ref") => `(tactic| (k_here; (with_reducible show wpAny _ _ (setAttr (Value.ref _) (PySem.Str.ofString "_description") _) _ _ _); refine t_setDesc (by walk_at "mA") (by walk_at "mA") (by walk_at "mA") (by walk_at "mA") (by walk_at "mA") (by walk_at "mA") (by walk_at "mA") ?_; intro h9 es9 n9 T9 F9 N9))
local macro_rules | `(tactic| walk_at "call ref") => `(tactic| (k_here; (with_reducible show wpAny _ _ (PySem.call (Value.ref 632) _ _) _ _ _); k_dflt (refine s_tow (by walk_at "mP") (by walk_at "mA") (by walk_at "mA") (by walk_at "mA") (by walk_at "mA") (by walk_at "mA") (by walk_at "mK") (by ktr_room) (by ktr_units) ?_); intro t9 h9 tk9 F9 N9))
local macro_rules | `(tactic| walk_at "compareOp Is") => `(tactic| (k_here; (with_reducible show wpAny _ _ (compareOp CmpOp.Is _ Value.none) _ _ _); first | refine is_none_pair (by walk_at "mA") (by walk_at "mA") ?_ | refine is_any_pair (by walk_at "mA") ?_))
local macro_rules | `(tactic| walk_at "compareOp IsNot") => `(tactic| (k_here; (with_reducible show wpAny _ _ (compareOp CmpOp.IsNot _ Value.none) _ _ _); refine isnot_none_pair (by walk_at "mA") (by walk_at "mA") ?_))
local macro_rules | `(tactic| walk_at "mBind") => `(tactic| first | exact BindsTo.of_eq rfl | exact binds_K (by k_in) rfl (by k_is) rfl rfl rfl)
local macro_rules | `(tactic| walk_at "mP") => `(tactic| first | with_reducible assumption | exact Pair.str _ _)
local macro_rules | `(tactic| walk_at "mNN") => `(tactic| first | with_reducible assumption | (intro e9; cases e9))
section
variable {w : World} {x dx : Addr} {news : List (Addr × Obj)} {f : Str → Option (Option Value)} {es : List DictEntry} {n : Nat} {e : Value} {u d q : Str} {v : Value} {g : Obj → List (Addr × Obj)}
theorem ct_user_set (hp : Pair v q) (hn : v ≠ .none) (hx : (x, instObj 522 dx) ∈ news) (hd : (dx, dictOf es n) ∈ news) (T : TD f es e u d) (U : UpdF dx (dictOf es n) news g) : Ct w 2 240 [.ref x, v] news fun r l => r = .none ∧ ∃ es' n', TD f es' e q d ∧ l = g (dictOf es' n') := by
  unfold Ct
  intros
  rename_i hret
  k_dflt (refine' code_def (binds := [(Str.ofString "self", .ref x), (Str.ofString "v", v)]) ?k1 ?k2 ?k3 ?k4 ?k5 ?kA ?kF ?kK ?k6 ?k7 ?k8 ?k9 ?kB ?_ ?c2 ?c3 ?c4 ?c5; (case kA => exact rfl); (case kF => exact rfl); (case kK => assumption); (case k1 => k_asm); (case k2 => k_asm); (case k3 => k_asm); (case k4 => k_asm); (case k5 => k_asm); (case k6 => k_is); (case k7 => k_is); (case k8 => ktr_room); (case k9 => walk_at "mBind"); (case c5 => decide); (case kB => exact locs rfl); (case c2 => exact rfl); (case c3 => exact rfl); (case c4 => exact rfl); k_whole; intro g' L' h' FG' F' N' B' X' T'; (try dsimp only); (try simp only [List.reverse_cons, List.reverse_nil, List.nil_append, List.cons_append] at F'); (try k_fold))
  k_steps
  exact hret _ _ _ _ ⟨rfl, _, _, by assumption, rfl⟩ (by assumption) (by assumption)
theorem ct_desc_set (hp : Pair v q) (hn : v ≠ .none) (hx : (x, instObj 522 dx) ∈ news) (hd : (dx, dictOf es n) ∈ news) (T : TD f es e u d) (U : UpdF dx (dictOf es n) news g) : Ct w 2 257 [.ref x, v] news fun r l => r = .none ∧ ∃ es' n', TD f es' e u q ∧ l = g (dictOf es' n') := by
  unfold Ct
  intros
  rename_i hret
  k_dflt (refine' code_def (binds := [(Str.ofString "self", .ref x), (Str.ofString "v", v)]) ?k1 ?k2 ?k3 ?k4 ?k5 ?kA ?kF ?kK ?k6 ?k7 ?k8 ?k9 ?kB ?_ ?c2 ?c3 ?c4 ?c5; (case kA => exact rfl); (case kF => exact rfl); (case kK => assumption); (case k1 => k_asm); (case k2 => k_asm); (case k3 => k_asm); (case k4 => k_asm); (case k5 => k_asm); (case k6 => k_is); (case k7 => k_is); (case k8 => ktr_room); (case k9 => walk_at "mBind"); (case c5 => decide); (case kB => exact locs rfl); (case c2 => exact rfl); (case c3 => exact rfl); (case c4 => exact rfl); k_whole; intro g' L' h' FG' F' N' B' X' T'; (try dsimp only); (try simp only [List.reverse_cons, List.reverse_nil, List.nil_append, List.cons_append] at F'); (try k_fold))
  k_steps
  exact hret _ _ _ _ ⟨rfl, _, _, by assumption, rfl⟩ (by assumption) (by assumption)
theorem ct_desc_none : Ct w 2 257 [.ref x, .none] news fun r l => r = .none ∧ l = news := by
  unfold Ct
  intros
  rename_i hret
  k_dflt (refine' code_def (binds := [(Str.ofString "self", .ref x), (Str.ofString "v", .none)]) ?k1 ?k2 ?k3 ?k4 ?k5 ?kA ?kF ?kK ?k6 ?k7 ?k8 ?k9 ?kB ?_ ?c2 ?c3 ?c4 ?c5; (case kA => exact rfl); (case kF => exact rfl); (case kK => assumption); (case k1 => k_asm); (case k2 => k_asm); (case k3 => k_asm); (case k4 => k_asm); (case k5 => k_asm); (case k6 => k_is); (case k7 => k_is); (case k8 => ktr_room); (case k9 => walk_at "mBind"); (case c5 => decide); (case kB => exact locs rfl); (case c2 => exact rfl); (case c3 => exact rfl); (case c4 => exact rfl); k_whole; intro g' L' h' FG' F' N' B' X' T'; (try dsimp only); (try simp only [List.reverse_cons, List.reverse_nil, List.nil_append, List.cons_append] at F'); (try k_fold))
  k_steps
  exact hret _ _ _ _ ⟨rfl, rfl⟩ (by assumption) (by assumption)
end

end Mine
/- part C5 -/
set_option Elab.async false
set_option maxRecDepth 100000
set_option maxHeartbeats 8000000
namespace Mine
theorem fill_aC5 : PySem.Challenge.rw_ft5041_01 = PySem.Challenge.rw_ft5041_01 ∧ Mine.hd.heap_39 = Mine.hd.heap_39 := by
  k_fill
  exact ⟨rfl, rfl⟩
section
variable {w : World} {x dx : Addr} {news : List (Addr × Obj)} {f : Str → Option (Option Value)} {es : List DictEntry} {n : Nat} {e : Value} {u d q : Str} {v : Value} {g : Obj → List (Addr × Obj)}
  {p : Program} {loose : List Str} {mean : ExcName → Option Value} {mg mb : Str → Option Value} {dp un : Nat} {gd : Option (List Code)} {cn : Str} {cs : Scope} {a : Addr} {ccd : Value} {cl : List (Str × Addr)} {outer : List Env}
    {A₀ : Around} {base h₀ : Heap} {L : Addr} {m : Str → Option Value} {s : Shared} {E : Value → Shared → Prop} {expr : Bool}
theorem s_setUserP (hp : Pair v q) (hn : v ≠ .none) (U : UpdF dx (dictOf es n) news g) (hx : (x, instObj 522 dx) ∈ news) (hdx : (dx, dictOf es n) ∈ news) (T : TD f es e u d) (B : Below A₀ base outer h₀) (F : Fr h₀ L s.heap m) (X : (Mine.hd.heap_39 w.params).In h₀) (N : News h₀ L s.heap news) (T' : Top p loose mean mg mb h₀) (hk : cs.kind = .function) (hd' : dp + 2 * 2 < recursionLimit) (hu : un + 2 + 10 * 2 < cLine) {Q : Unit → Shared → Prop} (h : ∀ (h' : Heap) (tk' : Nat) (es' : List DictEntry) (n' : Nat), TD f es' e q d → Fr h₀ L h' m → News h₀ L h' (g (dictOf es' n')) → Q () { s with heap := h', toks := tk' }) :
    wpAny (model PR w) (ktrTop dp un gd cn cs L a ccd cl outer) (setAttr (.ref x) (Str.ofString "user") v) Q E s :=
  q_set (ct_user_set hp hn hx hdx T U) (by k_is) (by k_is) (by k_is) (by k_is) (by k_is) B F X N T' hk hd' hu hx hdx fun _ _ h' tk' r F' N' => by
    obtain ⟨_, es', n', T', rfl⟩ := r
    exact h h' tk' es' n' T' F' N'
theorem s_setDescP (hp : Pair v q) (hn : v ≠ .none) (U : UpdF dx (dictOf es n) news g) (hx : (x, instObj 522 dx) ∈ news) (hdx : (dx, dictOf es n) ∈ news) (T : TD f es e u d) (B : Below A₀ base outer h₀) (F : Fr h₀ L s.heap m) (X : (Mine.hd.heap_39 w.params).In h₀) (N : News h₀ L s.heap news) (T' : Top p loose mean mg mb h₀) (hk : cs.kind = .function) (hd' : dp + 2 * 2 < recursionLimit) (hu : un + 2 + 10 * 2 < cLine) {Q : Unit → Shared → Prop} (h : ∀ (h' : Heap) (tk' : Nat) (es' : List DictEntry) (n' : Nat), TD f es' e u q → Fr h₀ L h' m → News h₀ L h' (g (dictOf es' n')) → Q () { s with heap := h', toks := tk' }) :
    wpAny (model PR w) (ktrTop dp un gd cn cs L a ccd cl outer) (setAttr (.ref x) (Str.ofString "description") v) Q E s :=
  q_set (ct_desc_set hp hn hx hdx T U) (by k_is) (by k_is) (by k_is) (by k_is) (by k_is) B F X N T' hk hd' hu hx hdx fun _ _ h' tk' r F' N' => by
    obtain ⟨_, es', n', T', rfl⟩ := r
    exact h h' tk' es' n' T' F' N'
theorem s_setDescNone (hx : (x, instObj 522 dx) ∈ news) (hdx : (dx, dictOf es n) ∈ news) (T : TD f es e u d) (B : Below A₀ base outer h₀) (F : Fr h₀ L s.heap m) (X : (Mine.hd.heap_39 w.params).In h₀) (N : News h₀ L s.heap news) (T' : Top p loose mean mg mb h₀) (hk : cs.kind = .function) (hd' : dp + 2 * 2 < recursionLimit) (hu : un + 2 + 10 * 2 < cLine) {Q : Unit → Shared → Prop} (h : ∀ (h' : Heap) (tk' : Nat), Fr h₀ L h' m → News h₀ L h' news → Q () { s with heap := h', toks := tk' }) :
    wpAny (model PR w) (ktrTop dp un gd cn cs L a ccd cl outer) (setAttr (.ref x) (Str.ofString "description") .none) Q E s :=
  q_set ct_desc_none (by k_is) (by k_is) (by k_is) (by k_is) (by k_is) B F X N T' hk hd' hu hx hdx fun _ _ h' tk' r F' N' => by
    obtain ⟨_, rfl⟩ := r
    exact h h' tk' F' N'
end
theorem fill_C5 : PySem.Challenge.rw_ft5041_01 = PySem.Challenge.rw_ft5041_01 ∧ Mine.hd.heap_39 = Mine.hd.heap_39 := by
  k_fill
  exact ⟨rfl, rfl⟩
local macro_rules | `(tactic| k_mem) => `(tactic| with_reducible assumption)
local macro_rules | `(tactic| k_updF) => `(tactic| with_reducible assumption)
local macro_rules | `(tactic| walk_at "mA") => `(tactic| with_reducible assumption)
local macro_rules | `(tactic| walk_at "mK") => `(tactic| first | with_reducible assumption | rfl)
local macro_rules | `(tactic| walk_at "getAttr ref") => `(tactic| (k_here; (with_reducible show wpAny _ _ (getAttr (Value.ref _) (PySem.Str.ofString "extension") _) _ _ _); refine t_ext (by walk_at "mA") (by walk_at "mA") (by walk_at "mA") (by walk_at "mA") (by walk_at "mA") (by walk_at "mA") (by walk_at "mA") ?_))
local macro_rules | `(tactic| walk_at "getAttr ref") => `(tactic| (k_here; (with_reducible show wpAny _ _ (getAttr (Value.ref _) (PySem.Str.ofString "user") _) _ _ _); k_dflt (refine s_user (by walk_at "mA") (by walk_at "mA") (by walk_at "mA") (by walk_at "mA") (by walk_at "mA") (by walk_at "mA") (by walk_at "mA") (by walk_at "mA") (by walk_at "mK") (by ktr_room) (by ktr_units) ?_); intro t9 h9 tk9 F9 N9))
local macro_rules | `(tactic| walk_at "getAttr ref") => `(tactic| (k_here; (with_reducible show wpAny _ _ (getAttr (Value.ref _) (PySem.Str.ofString "description") _) _ _ _); k_dflt (refine s_desc (by walk_at "mA") (by walk_at "mA") (by walk_at "mA") (by walk_at "mA") (by walk_at "mA") (by walk_at "mA") (by walk_at "mA") (by walk_at "mA") (by walk_at "mK") (by ktr_room) (by ktr_units) ?_); intro t9 h9 tk9 F9 N9))
local macro_rules | `(tactic| walk_at "setAttr ref") => `(tactic| (k_here; (with_reducible show wpAny _ _ (setAttr (Value.ref _) (PySem.Str.ofString "_user") _) _ _ _); refine t_setUser (by walk_at "mA") (by walk_at "mA") (by walk_at "mA") (by walk_at "mA") (by walk_at "mA") (by walk_at "mA") (by walk_at "mA") ?_; intro h9 es9 n9 T9 F9 N9))
local macro_rules | `(tactic| walk_at "setAttr ref") => `(tactic| (k_here; (with_reducible show wpAny _ _ (setAttr (Value.ref _) (PySem.Str.ofString "_description") _) _ _ _); refine t_setDesc (by walk_at "mA") (by walk_at "mA") (by walk_at "mA") (by walk_at "mA") (by walk_at "mA") (by walk_at "mA") (by walk_at "mA") ?_; intro h9 es9 n9 T9 F9 N9))
local macro_rules | `(tactic| walk_at "call ref") => `(tactic| (k_here; (with_reducible show wpAny _ _ (PySem.call (Value.ref 632) _ _) _ _ _); k_dflt (refine s_tow (by walk_at "mP") (by walk_at "mA") (by walk_at "mA") (by walk_at "mA") (by walk_at "mA") (by walk_at "mA") (by walk_at "mK") (by ktr_room) (by ktr_units) ?_); intro t9 h9 tk9 F9 N9))
local macro_rules | `(tactic| walk_at "compareOp Is") => `(tactic| (k_here; (with_reducible show wpAny _ _ (compareOp CmpOp.Is _ Value.none) _ _ _); first | refine is_none_pair (by walk_at "mA") (by walk_at "mA") ?_ | refine is_any_pair (by walk_at "mA") ?_))
local macro_rules | `(tactic| walk_at "compareOp IsNot") => `(tactic| (k_here; (with_reducible show wpAny _ _ (compareOp CmpOp.IsNot _ Value.none) _ _ _); refine isnot_none_pair (by walk_at "mA") (by walk_at "mA") ?_))
local macro_rules | `(tactic| walk_at "mBind") => `(tactic| first | exact BindsTo.of_eq rfl | exact binds_K (by k_in) rfl (by k_is) rfl rfl rfl)
local macro_rules | `(tactic| walk_at "mP") => `(tactic| first | with_reducible assumption | exact Pair.str _ _)
local macro_rules | `(tactic| walk_at "mNN") => `(tactic| first | with_reducible assumption | (intro e9; cases e9))
local macro_rules | `(tactic| walk_at "setAttr ref") => `(tactic| (k_here; (with_reducible show wpAny _ _ (setAttr (Value.ref _) (PySem.Str.ofString "user") _) _ _ _); k_dflt (refine s_setUserP (by walk_at "mP") (by walk_at "mNN") (by walk_at "mA") (by walk_at "mA") (by walk_at "mA") (by walk_at "mA") (by walk_at "mA") (by walk_at "mA") (by walk_at "mA") (by walk_at "mA") (by walk_at "mA") (by walk_at "mK") (by ktr_room) (by ktr_units) ?_); intro h9 tk9 es9 n9 T9 F9 N9))
local macro_rules | `(tactic| walk_at "setAttr ref") => `(tactic| (k_here; (with_reducible show wpAny _ _ (setAttr (Value.ref _) (PySem.Str.ofString "description") _) _ _ _); k_dflt (refine s_setDescP (by walk_at "mP") (by walk_at "mNN") (by walk_at "mA") (by walk_at "mA") (by walk_at "mA") (by walk_at "mA") (by walk_at "mA") (by walk_at "mA") (by walk_at "mA") (by walk_at "mA") (by walk_at "mA") (by walk_at "mK") (by ktr_room) (by ktr_units) ?_); intro h9 tk9 es9 n9 T9 F9 N9))
local macro_rules | `(tactic| walk_at "setAttr ref") => `(tactic| (k_here; (with_reducible show wpAny _ _ (setAttr (Value.ref _) (PySem.Str.ofString "description") Value.none) _ _ _); k_dflt (refine s_setDescNone (by walk_at "mA") (by walk_at "mA") (by walk_at "mA") (by walk_at "mA") (by walk_at "mA") (by walk_at "mA") (by walk_at "mA") (by walk_at "mA") (by walk_at "mK") (by ktr_room) (by ktr_units) ?_); intro h9 tk9 F9 N9))
local macro_rules | `(tactic| walk_at "mSz") => `(tactic| first | with_reducible assumption | (rw [sizeLine_eq]; omega) | omega | ((try simp only [Str.length_append]); (try rw [sizeLine_eq]); omega))
local macro_rules | `(tactic| walk_at "call builtin:str.strip") => `(tactic| (k_here; (refine SCL.strip (hsz := by walk_at "mSz") ?_); intro t9 k9 hl9))
local macro_rules | `(tactic| walk_at "binaryOp Add str str") => `(tactic| (k_here; (refine KOpn.add (by walk_at "mSz") ?_); intro t9 k9 hl9))
local macro_rules | `(tactic| walk_at "getMethod ref") => `(tactic| (k_here; k_dflt (refine t_meth (by walk_at "mA") (by walk_at "mA") (by walk_at "mA") (by walk_at "mA") (by walk_at "mA") (by walk_at "mA") (by decide +kernel) (by k_is) (by k_is) (by k_is) ?_)))
section
variable {w : World} {x dx : Addr} {news : List (Addr × Obj)} {f : Str → Option (Option Value)} {es : List DictEntry} {n : Nat} {e : Value} {u d q r : Str} {v pv : Value} {g : Obj → List (Addr × Obj)}
theorem ct_set_user (hp : Pair v q) (hn : v ≠ .none) (hx : (x, instObj 522 dx) ∈ news) (hd : (dx, dictOf es n) ∈ news) (T : TD f es e u d) (U : UpdF dx (dictOf es n) news g) : Ct w 3 265 [.ref x, v] news fun r l => r = .none ∧ ∃ es' n', TD f es' e q d ∧ l = g (dictOf es' n') := by
  unfold Ct
  intros
  rename_i hret
  k_dflt (refine' code_def (binds := [(Str.ofString "self", .ref x), (Str.ofString "v", v)]) ?k1 ?k2 ?k3 ?k4 ?k5 ?kA ?kF ?kK ?k6 ?k7 ?k8 ?k9 ?kB ?_ ?c2 ?c3 ?c4 ?c5; (case kA => exact rfl); (case kF => exact rfl); (case kK => assumption); (case k1 => k_asm); (case k2 => k_asm); (case k3 => k_asm); (case k4 => k_asm); (case k5 => k_asm); (case k6 => k_is); (case k7 => k_is); (case k8 => ktr_room); (case k9 => walk_at "mBind"); (case c5 => decide); (case kB => exact locs rfl); (case c2 => exact rfl); (case c3 => exact rfl); (case c4 => exact rfl); k_whole; intro g' L' h' FG' F' N' B' X' T'; (try dsimp only); (try simp only [List.reverse_cons, List.reverse_nil, List.nil_append, List.cons_append] at F'); (try k_fold))
  k_steps
  exact hret _ _ _ _ ⟨rfl, _, _, by assumption, rfl⟩ (by assumption) (by assumption)
theorem ct_set_description (hp : Pair v q) (hn : v ≠ .none) (hx : (x, instObj 522 dx) ∈ news) (hd : (dx, dictOf es n) ∈ news) (T : TD f es e u d) (U : UpdF dx (dictOf es n) news g) : Ct w 3 272 [.ref x, v] news fun r l => r = .none ∧ ∃ es' n', TD f es' e u q ∧ l = g (dictOf es' n') := by
  unfold Ct
  intros
  rename_i hret
  k_dflt (refine' code_def (binds := [(Str.ofString "self", .ref x), (Str.ofString "v", v)]) ?k1 ?k2 ?k3 ?k4 ?k5 ?kA ?kF ?kK ?k6 ?k7 ?k8 ?k9 ?kB ?_ ?c2 ?c3 ?c4 ?c5; (case kA => exact rfl); (case kF => exact rfl); (case kK => assumption); (case k1 => k_asm); (case k2 => k_asm); (case k3 => k_asm); (case k4 => k_asm); (case k5 => k_asm); (case k6 => k_is); (case k7 => k_is); (case k8 => ktr_room); (case k9 => walk_at "mBind"); (case c5 => decide); (case kB => exact locs rfl); (case c2 => exact rfl); (case c3 => exact rfl); (case c4 => exact rfl); k_whole; intro g' L' h' FG' F' N' B' X' T'; (try dsimp only); (try simp only [List.reverse_cons, List.reverse_nil, List.nil_append, List.cons_append] at F'); (try k_fold))
  k_steps
  exact hret _ _ _ _ ⟨rfl, _, _, by assumption, rfl⟩ (by assumption) (by assumption)
theorem ct_set_description_none (hx : (x, instObj 522 dx) ∈ news) (hd : (dx, dictOf es n) ∈ news) (T : TD f es e u d) : Ct w 3 272 [.ref x, .none] news fun r l => r = .none ∧ l = news := by
  unfold Ct
  intros
  rename_i hret
  k_dflt (refine' code_def (binds := [(Str.ofString "self", .ref x), (Str.ofString "v", .none)]) ?k1 ?k2 ?k3 ?k4 ?k5 ?kA ?kF ?kK ?k6 ?k7 ?k8 ?k9 ?kB ?_ ?c2 ?c3 ?c4 ?c5; (case kA => exact rfl); (case kF => exact rfl); (case kK => assumption); (case k1 => k_asm); (case k2 => k_asm); (case k3 => k_asm); (case k4 => k_asm); (case k5 => k_asm); (case k6 => k_is); (case k7 => k_is); (case k8 => ktr_room); (case k9 => walk_at "mBind"); (case c5 => decide); (case kB => exact locs rfl); (case c2 => exact rfl); (case c3 => exact rfl); (case c4 => exact rfl); k_whole; intro g' L' h' FG' F' N' B' X' T'; (try dsimp only); (try simp only [List.reverse_cons, List.reverse_nil, List.nil_append, List.cons_append] at F'); (try k_fold))
  k_steps
  exact hret _ _ _ _ ⟨rfl, rfl⟩ (by assumption) (by assumption)
theorem ct_note_none (hx : (x, instObj 522 dx) ∈ news) (hd : (dx, dictOf es n) ∈ news) (T : TD f es e u d) : Ct w 3 497 [.ref x, .none] news fun r l => r = .none ∧ l = news := by
  unfold Ct
  intros
  rename_i hret
  k_dflt (refine' code_def (binds := [(Str.ofString "self", .ref x), (Str.ofString "text", .none)]) ?k1 ?k2 ?k3 ?k4 ?k5 ?kA ?kF ?kK ?k6 ?k7 ?k8 ?k9 ?kB ?_ ?c2 ?c3 ?c4 ?c5; (case kA => exact rfl); (case kF => exact rfl); (case kK => assumption); (case k1 => k_asm); (case k2 => k_asm); (case k3 => k_asm); (case k4 => k_asm); (case k5 => k_asm); (case k6 => k_is); (case k7 => k_is); (case k8 => ktr_room); (case k9 => walk_at "mBind"); (case c5 => decide); (case kB => exact locs rfl); (case c2 => exact rfl); (case c3 => exact rfl); (case c4 => exact rfl); k_whole; intro g' L' h' FG' F' N' B' X' T'; (try dsimp only); (try simp only [List.reverse_cons, List.reverse_nil, List.nil_append, List.cons_append] at F'); (try k_fold))
  k_steps
  exact hret _ _ _ _ ⟨rfl, rfl⟩ (by assumption) (by assumption)
theorem nl_len : (Str.ofString "\n").length = 1 := by decide +kernel
theorem e_len {d : Str} : d = Str.ofString "" ↔ d.length = 0 := by
  constructor
  · rintro rfl; rfl
  · intro h
    obtain ⟨a⟩ := d
    have : a = #[] := Array.eq_empty_of_size_eq_zero h
    subst this; rfl
/-- a note, behind what stands -/
def noted (d q : Str) : Str := if d = Str.ofString "" then Txt.strip q else d ++ (Str.ofString "\n" ++ Txt.strip q)
theorem noted_on {d q : Str} (h : (d.length : Int) ≠ 0) : noted d q = d ++ (Str.ofString "\n" ++ Txt.strip q) := by
  unfold noted
  rw [if_neg fun e => h (by rw [e_len.mp e]; rfl)]
theorem noted_new {d q : Str} (h : (d.length : Int) = 0) : noted d q = Txt.strip q := by
  unfold noted
  rw [if_pos (e_len.mpr (by omega))]
theorem ct_note (hq : q.length ≤ 8) (hdl : d.length ≤ 1000) (hp : Pair v q) (hn : v ≠ .none) (hx : (x, instObj 522 dx) ∈ news) (hd : (dx, dictOf es n) ∈ news) (T : TD f es e u d) (U : UpdF dx (dictOf es n) news g) : Ct w 3 497 [.ref x, v] news fun r l => r = .none ∧ ∃ es' n', TD f es' e u (noted d q) ∧ l = g (dictOf es' n') := by
  have nl := nl_len
  unfold Ct
  intros
  rename_i hret
  k_dflt (refine' code_def (binds := [(Str.ofString "self", .ref x), (Str.ofString "text", v)]) ?k1 ?k2 ?k3 ?k4 ?k5 ?kA ?kF ?kK ?k6 ?k7 ?k8 ?k9 ?kB ?_ ?c2 ?c3 ?c4 ?c5; (case kA => exact rfl); (case kF => exact rfl); (case kK => assumption); (case k1 => k_asm); (case k2 => k_asm); (case k3 => k_asm); (case k4 => k_asm); (case k5 => k_asm); (case k6 => k_is); (case k7 => k_is); (case k8 => ktr_room); (case k9 => walk_at "mBind"); (case c5 => decide); (case kB => exact locs rfl); (case c2 => exact rfl); (case c3 => exact rfl); (case c4 => exact rfl); k_whole; intro g' L' h' FG' F' N' B' X' T'; (try dsimp only); (try simp only [List.reverse_cons, List.reverse_nil, List.nil_append, List.cons_append] at F'); (try k_fold))
  k_steps
  · exact hret _ _ _ _ ⟨rfl, _, _, by rw [noted_on (by assumption)]; assumption, rfl⟩ (by assumption) (by assumption)
  · exact hret _ _ _ _ ⟨rfl, _, _, by rw [noted_new (by assumption)]; assumption, rfl⟩ (by assumption) (by assumption)
theorem slash_sp : Str.empty ++ Str.ofString "/" ++ Str.ofString " " = Str.ofString "/ " := by decide +kernel
theorem ct_setUser (hq : q.length ≤ 8) (hrl : r.length ≤ 8) (hp : Pair v q) (hr : Pair pv r) (hx : (x, instObj 522 dx) ∈ news) (hd : (dx, dictOf es n) ∈ news) (T : TD f es e u d) (U : UpdF dx (dictOf es n) news g) : Ct w 3 505 [.ref x, v, pv] news fun r₁ l => r₁ = .none ∧ ∃ es' n', TD f es' e (r ++ Str.ofString " " ++ q) d ∧ l = g (dictOf es' n') := by
  unfold Ct
  intros
  rename_i hret
  k_dflt (refine' code_def (binds := [(Str.ofString "self", .ref x), (Str.ofString "user_name", v), (Str.ofString "path", pv)]) ?k1 ?k2 ?k3 ?k4 ?k5 ?kA ?kF ?kK ?k6 ?k7 ?k8 ?k9 ?kB ?_ ?c2 ?c3 ?c4 ?c5; (case kA => exact rfl); (case kF => exact rfl); (case kK => assumption); (case k1 => k_asm); (case k2 => k_asm); (case k3 => k_asm); (case k4 => k_asm); (case k5 => k_asm); (case k6 => k_is); (case k7 => k_is); (case k8 => ktr_room); (case k9 => walk_at "mBind"); (case c5 => decide); (case kB => exact locs rfl); (case c2 => exact rfl); (case c3 => exact rfl); (case c4 => exact rfl); k_whole; intro g' L' h' FG' F' N' B' X' T'; (try dsimp only); (try simp only [List.reverse_cons, List.reverse_nil, List.nil_append, List.cons_append] at F'); (try k_fold))
  k_steps
  exact hret _ _ _ _ ⟨rfl, _, _, by rw [← Str.empty_append r]; assumption, rfl⟩ (by assumption) (by assumption)
theorem ct_setUser1 (hq : q.length ≤ 8) (hp : Pair v q) (hx : (x, instObj 522 dx) ∈ news) (hd : (dx, dictOf es n) ∈ news) (T : TD f es e u d) (U : UpdF dx (dictOf es n) news g) : Ct w 3 505 [.ref x, v] news fun r₁ l => r₁ = .none ∧ ∃ es' n', TD f es' e (Str.ofString "/ " ++ q) d ∧ l = g (dictOf es' n') := by
  unfold Ct
  intros
  rename_i hret
  k_dflt (refine' code_def (binds := [(Str.ofString "self", .ref x), (Str.ofString "user_name", v), (Str.ofString "path", .str (Str.ofString "/") 794)]) ?k1 ?k2 ?k3 ?k4 ?k5 ?kA ?kF ?kK ?k6 ?k7 ?k8 ?k9 ?kB ?_ ?c2 ?c3 ?c4 ?c5; (case kA => exact rfl); (case kF => exact rfl); (case kK => assumption); (case k1 => k_asm); (case k2 => k_asm); (case k3 => k_asm); (case k4 => k_asm); (case k5 => k_asm); (case k6 => k_is); (case k7 => k_is); (case k8 => ktr_room); (case k9 => walk_at "mBind"); (case c5 => decide); (case kB => exact locs rfl); (case c2 => exact rfl); (case c3 => exact rfl); (case c4 => exact rfl); k_whole; intro g' L' h' FG' F' N' B' X' T'; (try dsimp only); (try simp only [List.reverse_cons, List.reverse_nil, List.nil_append, List.cons_append] at F'); (try k_fold))
  k_steps
  exact hret _ _ _ _ ⟨rfl, _, _, by rw [← slash_sp]; assumption, rfl⟩ (by assumption) (by assumption)
end

end Mine
/- part C6 -/
set_option Elab.async false
set_option maxRecDepth 100000
set_option maxHeartbeats 8000000
namespace Mine
theorem fill_aC6 : PySem.Challenge.rw_ft5041_01 = PySem.Challenge.rw_ft5041_01 ∧ Mine.hd.heap_39 = Mine.hd.heap_39 := by
  k_fill
  exact ⟨rfl, rfl⟩
theorem fill_C6 : PySem.Challenge.rw_ft5041_01 = PySem.Challenge.rw_ft5041_01 ∧ Mine.hd.heap_39 = Mine.hd.heap_39 := by
  k_fill
  exact ⟨rfl, rfl⟩
local macro_rules | `(tactic| k_mem) => `(tactic| with_reducible assumption)
local macro_rules | `(tactic| k_updF) => `(tactic| with_reducible assumption)
local macro_rules | `(tactic| walk_at "mA") => `(tactic| with_reducible assumption)
local macro_rules | `(tactic| walk_at "mK") => `(tactic| first | with_reducible assumption | rfl)
local macro_rules | `(tactic| walk_at "getAttr ref") => `(tactic| (k_here; (with_reducible show wpAny _ _ (getAttr (Value.ref _) (PySem.Str.ofString "extension") _) _ _ _); refine t_ext (by walk_at "mA") (by walk_at "mA") (by walk_at "mA") (by walk_at "mA") (by walk_at "mA") (by walk_at "mA") (by walk_at "mA") ?_))
local macro_rules | `(tactic| walk_at "getAttr ref") => `(tactic| (k_here; (with_reducible show wpAny _ _ (getAttr (Value.ref _) (PySem.Str.ofString "user") _) _ _ _); k_dflt (refine s_user (by walk_at "mA") (by walk_at "mA") (by walk_at "mA") (by walk_at "mA") (by walk_at "mA") (by walk_at "mA") (by walk_at "mA") (by walk_at "mA") (by walk_at "mK") (by ktr_room) (by ktr_units) ?_); intro t9 h9 tk9 F9 N9))
local macro_rules | `(tactic| walk_at "getAttr ref") => `(tactic| (k_here; (with_reducible show wpAny _ _ (getAttr (Value.ref _) (PySem.Str.ofString "description") _) _ _ _); k_dflt (refine s_desc (by walk_at "mA") (by walk_at "mA") (by walk_at "mA") (by walk_at "mA") (by walk_at "mA") (by walk_at "mA") (by walk_at "mA") (by walk_at "mA") (by walk_at "mK") (by ktr_room) (by ktr_units) ?_); intro t9 h9 tk9 F9 N9))
local macro_rules | `(tactic| walk_at "setAttr ref") => `(tactic| (k_here; (with_reducible show wpAny _ _ (setAttr (Value.ref _) (PySem.Str.ofString "_user") _) _ _ _); refine t_setUser (by walk_at "mA") (by walk_at "mA") (by walk_at "mA") (by walk_at "mA") (by walk_at "mA") (by walk_at "mA") (by walk_at "mA") ?_; intro h9 es9 n9 T9 F9 N9))
local macro_rules | `(tactic| walk_at "setAttr ref") => `(tactic| (k_here; (with_reducible show wpAny _ _ (setAttr (Value.ref _) (PySem.Str.ofString "_description") _) _ _ _); refine t_setDesc (by walk_at "mA") (by walk_at "mA") (by walk_at "mA") (by walk_at "mA") (by walk_at "mA") (by walk_at "mA") (by walk_at "mA") ?_; intro h9 es9 n9 T9 F9 N9))
local macro_rules | `(tactic| walk_at "call ref") => `(tactic| (k_here; (with_reducible show wpAny _ _ (PySem.call (Value.ref 632) _ _) _ _ _); k_dflt (refine s_tow (by walk_at "mP") (by walk_at "mA") (by walk_at "mA") (by walk_at "mA") (by walk_at "mA") (by walk_at "mA") (by walk_at "mK") (by ktr_room) (by ktr_units) ?_); intro t9 h9 tk9 F9 N9))
local macro_rules | `(tactic| walk_at "compareOp Is") => `(tactic| (k_here; (with_reducible show wpAny _ _ (compareOp CmpOp.Is _ Value.none) _ _ _); first | refine is_none_pair (by walk_at "mA") (by walk_at "mA") ?_ | refine is_any_pair (by walk_at "mA") ?_))
local macro_rules | `(tactic| walk_at "compareOp IsNot") => `(tactic| (k_here; (with_reducible show wpAny _ _ (compareOp CmpOp.IsNot _ Value.none) _ _ _); refine isnot_none_pair (by walk_at "mA") (by walk_at "mA") ?_))
local macro_rules | `(tactic| walk_at "mBind") => `(tactic| first | exact BindsTo.of_eq rfl | exact binds_K (by k_in) rfl (by k_is) rfl rfl rfl)
local macro_rules | `(tactic| walk_at "mP") => `(tactic| first | with_reducible assumption | exact Pair.str _ _)
local macro_rules | `(tactic| walk_at "mNN") => `(tactic| first | with_reducible assumption | (intro e9; cases e9))
local macro_rules | `(tactic| walk_at "setAttr ref") => `(tactic| (k_here; (with_reducible show wpAny _ _ (setAttr (Value.ref _) (PySem.Str.ofString "user") _) _ _ _); k_dflt (refine s_setUserP (by walk_at "mP") (by walk_at "mNN") (by walk_at "mA") (by walk_at "mA") (by walk_at "mA") (by walk_at "mA") (by walk_at "mA") (by walk_at "mA") (by walk_at "mA") (by walk_at "mA") (by walk_at "mA") (by walk_at "mK") (by ktr_room) (by ktr_units) ?_); intro h9 tk9 es9 n9 T9 F9 N9))
local macro_rules | `(tactic| walk_at "setAttr ref") => `(tactic| (k_here; (with_reducible show wpAny _ _ (setAttr (Value.ref _) (PySem.Str.ofString "description") _) _ _ _); k_dflt (refine s_setDescP (by walk_at "mP") (by walk_at "mNN") (by walk_at "mA") (by walk_at "mA") (by walk_at "mA") (by walk_at "mA") (by walk_at "mA") (by walk_at "mA") (by walk_at "mA") (by walk_at "mA") (by walk_at "mA") (by walk_at "mK") (by ktr_room) (by ktr_units) ?_); intro h9 tk9 es9 n9 T9 F9 N9))
local macro_rules | `(tactic| walk_at "setAttr ref") => `(tactic| (k_here; (with_reducible show wpAny _ _ (setAttr (Value.ref _) (PySem.Str.ofString "description") Value.none) _ _ _); k_dflt (refine s_setDescNone (by walk_at "mA") (by walk_at "mA") (by walk_at "mA") (by walk_at "mA") (by walk_at "mA") (by walk_at "mA") (by walk_at "mA") (by walk_at "mA") (by walk_at "mK") (by ktr_room) (by ktr_units) ?_); intro h9 tk9 F9 N9))
local macro_rules | `(tactic| walk_at "mSz") => `(tactic| first | with_reducible assumption | (rw [sizeLine_eq]; omega) | omega | ((try simp only [Str.length_append]); (try rw [sizeLine_eq]); omega))
local macro_rules | `(tactic| walk_at "call builtin:str.strip") => `(tactic| (k_here; (refine SCL.strip (hsz := by walk_at "mSz") ?_); intro t9 k9 hl9))
local macro_rules | `(tactic| walk_at "binaryOp Add str str") => `(tactic| (k_here; (refine KOpn.add (by walk_at "mSz") ?_); intro t9 k9 hl9))
local macro_rules | `(tactic| walk_at "getMethod ref") => `(tactic| (k_here; k_dflt (refine t_meth (by walk_at "mA") (by walk_at "mA") (by walk_at "mA") (by walk_at "mA") (by walk_at "mA") (by walk_at "mA") (by decide +kernel) (by k_is) (by k_is) (by k_is) ?_)))
section
variable {w : World} {A : Around} {E : Value → Shared → Prop} {s : Shared} {h₀ : Heap} {L a : Addr} {m : Str → Option Value} {news : List (Addr × Obj)} {g : Obj → List (Addr × Obj)} {o : Obj} {kvs : List (Str × Value)} {k : Str} {v : Value} {t : Tok}
theorem o_item {value slice : Expr} {Q : Value → Shared → Prop} (N : News h₀ L s.heap news) (hm : (a, o) ∈ news) (hd : o.IsDictOf (strKind PR w) kvs) (hv : valueAt kvs k = some v) (h : Q v { s with toks := s.toks + 1 })
    (hs : subscripted slice false (.ref a) (.str k t) = operate [.ref a, .str k t] (getItem (.ref a) (.str k t)) := by with_unfolding_all rfl) :
    wpAny (model PR w) A (subscriptTail value slice (.ref a) (.str k t)) Q E s := by
  have D : s.heap.DictOf (strKind PR w) a kvs := Heap.dictOf_iff.mpr ⟨o, (N _ hm).1, hd⟩
  exact tail_any D.typeIs slot_dict_getitem.lookup (wpAny_getItem_of (strKind_is PR w k t) D.mapOf hv h) hs
theorem o_get {Q : Value → Shared → Prop} (N : News h₀ L s.heap news) (hm : (a, o) ∈ news) (hd : o.IsDictOf (strKind PR w) kvs) (hv : valueAt kvs k = some v) (h : Q v { s with toks := s.toks + 1 }) :
    wpAny (model PR w) A (getItem (.ref a) (.str k t)) Q E s := by
  have D : s.heap.DictOf (strKind PR w) a kvs := Heap.dictOf_iff.mpr ⟨o, (N _ hm).1, hd⟩
  exact wpAny_getItem_of (strKind_is PR w k t) D.mapOf hv h
theorem o_set {Q : Unit → Shared → Prop} (F : Fr h₀ L s.heap m) (N : News h₀ L s.heap news) (hm : (a, o) ∈ news) (hd : o.IsDictOf (strKind PR w) kvs) (U : UpdF a o news g) (hz : kvs.length ≤ 100)
    (h : ∀ h' o', o'.IsDictOf (strKind PR w) (stored kvs k v) → Fr h₀ L h' m → News h₀ L h' (g o') → Q () { s with heap := h', toks := s.toks + 1 }) :
    wpAny (model PR w) A (setItem (.ref a) (.str k t) v) Q E s := by
  have D : s.heap.DictOf (strKind PR w) a kvs := Heap.dictOf_iff.mpr ⟨o, (N _ hm).1, hd⟩
  obtain ⟨pre, post, rfl, hg, h1, h2⟩ := U.split
  refine wpAny_setItem_pairs (hsz := by rw [sizeLine_eq]; omega) (strKind_is PR w k t) D fun h' hmm hs => ?_
  obtain ⟨o', ho', hd'⟩ := Heap.dictOf_iff.mp hmm
  have z := N _ hm
  exact h h' o' hd' (F.change hs z.2.1 z.2.2) (hg o' ▸ N.setIn h1 h2 hs ho')
end
theorem stored_small {kvs : List (Str × Value)} {k : Str} {v : Value} : (stored kvs k v).length ≤ kvs.length + 1 := stored_length_le kvs k v
local macro_rules | `(tactic| walk_at "setItem ref str") => `(tactic| (k_here; (refine o_set (by walk_at "mA") (by walk_at "mA") (by walk_at "mA") (by walk_at "mA") (by walk_at "mA") (by walk_at "mSz") ?_); intro h9 o9 d9 F9 N9))
section
variable {w : World} {x dx ea : Addr} {news : List (Addr × Obj)} {f : Str → Option (Option Value)} {es : List DictEntry} {n : Nat} {u d k : Str} {v : Value} {t : Tok} {g : Obj → List (Addr × Obj)} {eo : Obj} {kvs : List (Str × Value)}
theorem ct_setExtendedInfo (hx : (x, instObj 522 dx) ∈ news) (hd : (dx, dictOf es n) ∈ news) (T : TD f es (.ref ea) u d) (hea : handedIn (.ref ea) = true) (hm : (ea, eo) ∈ news) (hk : eo.IsDictOf (strKind PR w) kvs) (U : UpdF ea eo news g) (hz : kvs.length ≤ 100) :
    Ct w 3 512 [.ref x, .str k t, v] news fun r l => r = .none ∧ ∃ eo', eo'.IsDictOf (strKind PR w) (stored kvs k v) ∧ l = g eo' := by
  unfold Ct
  intros
  rename_i hret
  k_dflt (refine' code_def (binds := [(Str.ofString "self", .ref x), (Str.ofString "name", .str k t), (Str.ofString "value", v)]) ?k1 ?k2 ?k3 ?k4 ?k5 ?kA ?kF ?kK ?k6 ?k7 ?k8 ?k9 ?kB ?_ ?c2 ?c3 ?c4 ?c5; (case kA => exact rfl); (case kF => exact rfl); (case kK => assumption); (case k1 => k_asm); (case k2 => k_asm); (case k3 => k_asm); (case k4 => k_asm); (case k5 => k_asm); (case k6 => k_is); (case k7 => k_is); (case k8 => ktr_room); (case k9 => walk_at "mBind"); (case c5 => decide); (case kB => exact locs rfl); (case c2 => exact rfl); (case c3 => exact rfl); (case c4 => exact rfl); k_whole; intro g' L' h' FG' F' N' B' X' T'; (try dsimp only); (try simp only [List.reverse_cons, List.reverse_nil, List.nil_append, List.cons_append] at F'); (try k_fold))
  k_steps
  exact hret _ _ _ _ ⟨rfl, _, by assumption, rfl⟩ (by assumption) (by assumption)
end

end Mine
/- part C6s -/
set_option Elab.async false
set_option maxRecDepth 100000
set_option maxHeartbeats 8000000
namespace Mine
section
variable {prog : Program} {w : World} {A : Around} {E : Value → Shared → Prop} {s : Shared} {cn : Str} {cs : Scope} {L a : Addr} {cd : Value} {h₀ : Heap} {m : Str → Option Value} {x : Str} {W k j : Int} {t : Tok} {p1 p2 p3 p4 p5 p6 p7 p8 p9 : Pos} {kk jj : Nat} {whole : Sem Value} {body rest : List Stmt} {Q : Flow → Shared → Prop} {e2 : Expr}
theorem tst_eq {Q : Bool → Shared → Prop} (F : Fr h₀ L s.heap m) (hv : m x = some (.int W t)) (hk : cs.kind = .function) (hl : (envOf cn cs L a cd).kindOf x = some .local) (hd : (x == ("__debug__" : Str)) = false) (h : Q (W == k) { s with toks := s.toks + 1 }) :
    wpAny (model prog w) A (isTrue (.Compare (.Name x p1) [.Eq] [.Constant (.int k) kk p2] p3) (envOf cn cs L a cd) whole) Q E s :=
  wpAny_isTrue_Compare1 (ld F hv (wpAny_Constant_int (eq_int (wpAny_truthy_bool h))) hk hl hd)
theorem if_no {test : Expr} {env : Env} (ht : wpAny (model prog w) A (isTrue test env (eval test env)) (fun b s' => b = false ∧ wpAny (model prog w) A (execs rest env) Q E s') E s) : wpAny (model prog w) A (execs (.If test body [] p4 :: rest) env) Q E s := by
  refine wpAny_execs_cons (wpAny_If (wpAny_mono ht (fun b s' h => ?_) fun _ _ e => e))
  obtain ⟨rfl, h⟩ := h
  exact wpAny_execs_nil h
theorem eq_no (h : W ≠ k) : (W == k) = false := by simpa using h
theorem skipA (F : Fr h₀ L s.heap m) (hv : m x = some (.int W t)) (hne : W ≠ k) (hk : cs.kind = .function) (hl : (envOf cn cs L a cd).kindOf x = some .local) (hd : (x == ("__debug__" : Str)) = false)
    (h : ∀ tk, wpAny (model prog w) A (execs rest (envOf cn cs L a cd)) Q E { s with toks := tk }) :
    wpAny (model prog w) A (execs (.If (.Compare (.Name x p1) [.Eq] [.Constant (.int k) kk p2] p3) body [] p4 :: rest) (envOf cn cs L a cd)) Q E s :=
  if_no (tst_eq F hv hk hl hd ⟨eq_no hne, h _⟩)
theorem skipB (F : Fr h₀ L s.heap m) (hv : m x = some (.int W t)) (hne : W ≠ k) (hne2 : W ≠ j) (hk : cs.kind = .function) (hl : (envOf cn cs L a cd).kindOf x = some .local) (hd : (x == ("__debug__" : Str)) = false)
    (h : ∀ tk, wpAny (model prog w) A (execs rest (envOf cn cs L a cd)) Q E { s with toks := tk }) :
    wpAny (model prog w) A (execs (.If (.BoolOp .Or [.Compare (.Name x p1) [.Eq] [.Constant (.int k) kk p2] p3, .Compare (.Name x p5) [.Eq] [.Constant (.int j) jj p6] p7] p8) body [] p4 :: rest) (envOf cn cs L a cd)) Q E s := by
  refine if_no (isTrue_or (tst_eq F hv hk hl hd ?_))
  rw [eq_no hne]
  refine isTrue_or (tst_eq (s := { s with toks := s.toks + 1 }) F hv hk hl hd ?_)
  rw [eq_no hne2]
  exact isTrue_or_nil ⟨rfl, h _⟩
theorem skipC (F : Fr h₀ L s.heap m) (hv : m x = some (.int W t)) (hne : W ≠ k) (hne2 : W ≠ j) (hk : cs.kind = .function) (hl : (envOf cn cs L a cd).kindOf x = some .local) (hd : (x == ("__debug__" : Str)) = false)
    (h : ∀ tk, wpAny (model prog w) A (execs rest (envOf cn cs L a cd)) Q E { s with toks := tk }) :
    wpAny (model prog w) A (execs (.If (.BoolOp .And [.BoolOp .Or [.Compare (.Name x p1) [.Eq] [.Constant (.int k) kk p2] p3, .Compare (.Name x p5) [.Eq] [.Constant (.int j) jj p6] p7] p8, e2] p9) body [] p4 :: rest) (envOf cn cs L a cd)) Q E s := by
  refine if_no (isTrue_and (isTrue_or (tst_eq F hv hk hl hd ?_)))
  rw [eq_no hne]
  refine isTrue_or (tst_eq (s := { s with toks := s.toks + 1 }) F hv hk hl hd ?_)
  rw [eq_no hne2]
  exact isTrue_or_nil ⟨rfl, h _⟩
theorem skipD (F : Fr h₀ L s.heap m) (hv : m x = some (.int W t)) (hne : W ≠ k) (hk : cs.kind = .function) (hl : (envOf cn cs L a cd).kindOf x = some .local) (hd : (x == ("__debug__" : Str)) = false)
    (h : ∀ tk, wpAny (model prog w) A (execs rest (envOf cn cs L a cd)) Q E { s with toks := tk }) :
    wpAny (model prog w) A (execs (.If (.BoolOp .And [.Compare (.Name x p1) [.Eq] [.Constant (.int k) kk p2] p3, e2] p9) body [] p4 :: rest) (envOf cn cs L a cd)) Q E s := by
  refine if_no (isTrue_and (tst_eq F hv hk hl hd ?_))
  rw [eq_no hne]
  exact ⟨rfl, h _⟩
end
end Mine
/- part C7 -/
set_option Elab.async false
set_option maxRecDepth 100000
set_option maxHeartbeats 8000000
namespace Mine
theorem fill_aC7 : PySem.Challenge.rw_ft5041_01 = PySem.Challenge.rw_ft5041_01 ∧ Mine.hd.heap_39 = Mine.hd.heap_39 := by
  k_fill
  exact ⟨rfl, rfl⟩
theorem fill_C7 : PySem.Challenge.rw_ft5041_01 = PySem.Challenge.rw_ft5041_01 ∧ Mine.hd.heap_39 = Mine.hd.heap_39 := by
  k_fill
  exact ⟨rfl, rfl⟩
local macro_rules | `(tactic| k_mem) => `(tactic| with_reducible assumption)
local macro_rules | `(tactic| k_updF) => `(tactic| with_reducible assumption)
local macro_rules | `(tactic| walk_at "mA") => `(tactic| with_reducible assumption)
local macro_rules | `(tactic| walk_at "mK") => `(tactic| first | with_reducible assumption | rfl)
local macro_rules | `(tactic| walk_at "getAttr ref") => `(tactic| (k_here; (with_reducible show wpAny _ _ (getAttr (Value.ref _) (PySem.Str.ofString "extension") _) _ _ _); refine t_ext (by walk_at "mA") (by walk_at "mA") (by walk_at "mA") (by walk_at "mA") (by walk_at "mA") (by walk_at "mA") (by walk_at "mA") ?_))
local macro_rules | `(tactic| walk_at "getAttr ref") => `(tactic| (k_here; (with_reducible show wpAny _ _ (getAttr (Value.ref _) (PySem.Str.ofString "user") _) _ _ _); k_dflt (refine s_user (by walk_at "mA") (by walk_at "mA") (by walk_at "mA") (by walk_at "mA") (by walk_at "mA") (by walk_at "mA") (by walk_at "mA") (by walk_at "mA") (by walk_at "mK") (by ktr_room) (by ktr_units) ?_); intro t9 h9 tk9 F9 N9))
local macro_rules | `(tactic| walk_at "getAttr ref") => `(tactic| (k_here; (with_reducible show wpAny _ _ (getAttr (Value.ref _) (PySem.Str.ofString "description") _) _ _ _); k_dflt (refine s_desc (by walk_at "mA") (by walk_at "mA") (by walk_at "mA") (by walk_at "mA") (by walk_at "mA") (by walk_at "mA") (by walk_at "mA") (by walk_at "mA") (by walk_at "mK") (by ktr_room) (by ktr_units) ?_); intro t9 h9 tk9 F9 N9))
local macro_rules | `(tactic| walk_at "setAttr ref") => `(tactic| (k_here; (with_reducible show wpAny _ _ (setAttr (Value.ref _) (PySem.Str.ofString "_user") _) _ _ _); refine t_setUser (by walk_at "mA") (by walk_at "mA") (by walk_at "mA") (by walk_at "mA") (by walk_at "mA") (by walk_at "mA") (by walk_at "mA") ?_; intro h9 es9 n9 T9 F9 N9))
local macro_rules | `(tactic| walk_at "setAttr ref") => `(tactic| (k_here; (with_reducible show wpAny _ _ (setAttr (Value.ref _) (PySem.Str.ofString "_description") _) _ _ _); refine t_setDesc (by walk_at "mA") (by walk_at "mA") (by walk_at "mA") (by walk_at "mA") (by walk_at "mA") (by walk_at "mA") (by walk_at "mA") ?_; intro h9 es9 n9 T9 F9 N9))
local macro_rules | `(tactic| walk_at "call ref") => `(tactic| (k_here; (with_reducible show wpAny _ _ (PySem.call (Value.ref 632) _ _) _ _ _); k_dflt (refine s_tow (by walk_at "mP") (by walk_at "mA") (by walk_at "mA") (by walk_at "mA") (by walk_at "mA") (by walk_at "mA") (by walk_at "mK") (by ktr_room) (by ktr_units) ?_); intro t9 h9 tk9 F9 N9))
local macro_rules | `(tactic| walk_at "compareOp Is") => `(tactic| (k_here; (with_reducible show wpAny _ _ (compareOp CmpOp.Is _ Value.none) _ _ _); first | refine is_none_pair (by walk_at "mA") (by walk_at "mA") ?_ | refine is_any_pair (by walk_at "mA") ?_))
local macro_rules | `(tactic| walk_at "compareOp IsNot") => `(tactic| (k_here; (with_reducible show wpAny _ _ (compareOp CmpOp.IsNot _ Value.none) _ _ _); refine isnot_none_pair (by walk_at "mA") (by walk_at "mA") ?_))
local macro_rules | `(tactic| walk_at "mBind") => `(tactic| first | exact BindsTo.of_eq rfl | exact binds_K (by k_in) rfl (by k_is) rfl rfl rfl)
local macro_rules | `(tactic| walk_at "mP") => `(tactic| first | with_reducible assumption | exact Pair.str _ _)
local macro_rules | `(tactic| walk_at "mNN") => `(tactic| first | with_reducible assumption | (intro e9; cases e9))
local macro_rules | `(tactic| walk_at "setAttr ref") => `(tactic| (k_here; (with_reducible show wpAny _ _ (setAttr (Value.ref _) (PySem.Str.ofString "user") _) _ _ _); k_dflt (refine s_setUserP (by walk_at "mP") (by walk_at "mNN") (by walk_at "mA") (by walk_at "mA") (by walk_at "mA") (by walk_at "mA") (by walk_at "mA") (by walk_at "mA") (by walk_at "mA") (by walk_at "mA") (by walk_at "mA") (by walk_at "mK") (by ktr_room) (by ktr_units) ?_); intro h9 tk9 es9 n9 T9 F9 N9))
local macro_rules | `(tactic| walk_at "setAttr ref") => `(tactic| (k_here; (with_reducible show wpAny _ _ (setAttr (Value.ref _) (PySem.Str.ofString "description") _) _ _ _); k_dflt (refine s_setDescP (by walk_at "mP") (by walk_at "mNN") (by walk_at "mA") (by walk_at "mA") (by walk_at "mA") (by walk_at "mA") (by walk_at "mA") (by walk_at "mA") (by walk_at "mA") (by walk_at "mA") (by walk_at "mA") (by walk_at "mK") (by ktr_room) (by ktr_units) ?_); intro h9 tk9 es9 n9 T9 F9 N9))
local macro_rules | `(tactic| walk_at "setAttr ref") => `(tactic| (k_here; (with_reducible show wpAny _ _ (setAttr (Value.ref _) (PySem.Str.ofString "description") Value.none) _ _ _); k_dflt (refine s_setDescNone (by walk_at "mA") (by walk_at "mA") (by walk_at "mA") (by walk_at "mA") (by walk_at "mA") (by walk_at "mA") (by walk_at "mA") (by walk_at "mA") (by walk_at "mK") (by ktr_room) (by ktr_units) ?_); intro h9 tk9 F9 N9))
local macro_rules | `(tactic| walk_at "mSz") => `(tactic| first | with_reducible assumption | (rw [sizeLine_eq]; omega) | omega | ((try simp only [Str.length_append]); (try rw [sizeLine_eq]); omega))
local macro_rules | `(tactic| walk_at "call builtin:str.strip") => `(tactic| (k_here; (refine SCL.strip (hsz := by walk_at "mSz") ?_); intro t9 k9 hl9))
local macro_rules | `(tactic| walk_at "binaryOp Add str str") => `(tactic| (k_here; (refine KOpn.add (by walk_at "mSz") ?_); intro t9 k9 hl9))
local macro_rules | `(tactic| walk_at "getMethod ref") => `(tactic| (k_here; k_dflt (refine t_meth (by walk_at "mA") (by walk_at "mA") (by walk_at "mA") (by walk_at "mA") (by walk_at "mA") (by walk_at "mA") (by decide +kernel) (by k_is) (by k_is) (by k_is) ?_)))
local macro_rules | `(tactic| walk_at "mR") => `(tactic| exact rfl)
local macro_rules | `(tactic| walk_at "execs cons If") => `(tactic| (k_here; (with_reducible show wpAny _ _ (execs (Stmt.If (Expr.Compare (Expr.Name (PySem.Str.ofString "what") _) [CmpOp.Eq] [Expr.Constant (Const.int _) _ _] _) _ [] _ :: _) _) _ _ _); k_dflt (refine skipA (by walk_at "mA") (by walk_at "mR") (by decide) (by walk_at "mR") (by walk_at "mR") (by decide) ?_); intro tk9))
local macro_rules | `(tactic| walk_at "execs cons If") => `(tactic| (k_here; (with_reducible show wpAny _ _ (execs (Stmt.If (Expr.BoolOp BoolOp.Or [Expr.Compare (Expr.Name (PySem.Str.ofString "what") _) [CmpOp.Eq] [Expr.Constant (Const.int _) _ _] _, _] _) _ [] _ :: _) _) _ _ _); k_dflt (refine skipB (by walk_at "mA") (by walk_at "mR") (by decide) (by decide) (by walk_at "mR") (by walk_at "mR") (by decide) ?_); intro tk9))
local macro_rules | `(tactic| walk_at "execs cons If") => `(tactic| (k_here; (with_reducible show wpAny _ _ (execs (Stmt.If (Expr.BoolOp BoolOp.And [Expr.BoolOp BoolOp.Or [Expr.Compare (Expr.Name (PySem.Str.ofString "what") _) [CmpOp.Eq] [Expr.Constant (Const.int _) _ _] _, _] _, _] _) _ [] _ :: _) _) _ _ _); k_dflt (refine skipC (by walk_at "mA") (by walk_at "mR") (by decide) (by decide) (by walk_at "mR") (by walk_at "mR") (by decide) ?_); intro tk9))
local macro_rules | `(tactic| walk_at "execs cons If") => `(tactic| (k_here; (with_reducible show wpAny _ _ (execs (Stmt.If (Expr.BoolOp BoolOp.And [Expr.Compare (Expr.Name (PySem.Str.ofString "what") _) [CmpOp.Eq] [Expr.Constant (Const.int _) _ _] _, _] _) _ [] _ :: _) _) _ _ _); k_dflt (refine skipD (by walk_at "mA") (by walk_at "mR") (by decide) (by walk_at "mR") (by walk_at "mR") (by decide) ?_); intro tk9))
/-- the law's own dict of one transaction -/
abbrev D4 (u ws mi e : Value) : List (Str × Value) := [(Str.ofString "user", u), (Str.ofString "words", ws), (Str.ofString "mirror", mi), (Str.ofString "dict", e)]
theorem D4_user {u ws mi e v : Value} : stored (D4 u ws mi e) (Str.ofString "user") v = D4 v ws mi e := rfl
theorem D4_words {u ws mi e v : Value} : stored (D4 u ws mi e) (Str.ofString "words") v = D4 u v mi e := rfl
theorem D4_mirror {u ws mi e v : Value} : stored (D4 u ws mi e) (Str.ofString "mirror") v = D4 u ws v e := rfl
theorem D4_dict {u ws mi e v : Value} : stored (D4 u ws mi e) (Str.ofString "dict") v = D4 u ws mi v := rfl
abbrev listO (vs : List Value) : Obj := { cls := .type "list", data := .seq vs.toArray }
abbrev okL (t : Tok) : Obj := listO [.str (Str.ofString "ok") t, .none]
abbrev errL (t t' : Tok) : Obj := listO [.str (Str.ofString "ValueError") t, .str (Str.ofString "user must not be None") t']
abbrev tupO (vs : List Value) : Obj := ⟨.type "tuple", none, .seq vs.toArray 0, #[]⟩
local macro_rules | `(tactic| walk_at "setItem ref str") => `(tactic| (k_here; (refine o_set (by walk_at "mA") (by walk_at "mA") (by walk_at "mA") (by walk_at "mA") (by walk_at "mA") (by first | walk_at "mA" | exact Nat.le_of_ble_eq_true rfl) ?_); intro h9 o9 d9 F9 N9))
local macro_rules | `(tactic| walk_at "subscriptTail") => `(tactic| (k_here; (with_reducible show wpAny _ _ (subscriptTail _ _ (Value.ref _) (Value.str _ _)) _ _ _); k_dflt (refine o_item (by walk_at "mA") (by walk_at "mA") (by walk_at "mA") (by rfl) ?_)))
local macro_rules | `(tactic| walk_at "subscriptTail") => `(tactic| (k_here; (with_reducible show wpAny _ _ (subscriptTail _ _ (Value.ref _) (Value.int _ _)) _ _ _); k_dflt (refine topTup_K (by walk_at "mA") (by walk_at "mA") (by walk_at "mA") (by decide) (by decide) (by rfl) (by rfl) ?_)))

section
variable {w : World} {da mi va pa : Addr} {news : List (Addr × Obj)} {ws q r : Str} {u v e pv : Value} {t tw tq tr : Tok} {gd gm : Obj → List (Addr × Obj)} {od om : Obj} {mk : List (Str × Value)}
theorem law_on {d q : Str} (h : (d != Str.ofString "") = true) : d ++ Str.ofString "\n" ++ Txt.strip q = noted d q := by
  unfold noted
  rw [if_neg (by simpa using h), Str.append_assoc]
theorem law_new {d q : Str} (h : (d != Str.ofString "") = false) : Txt.strip q = noted d q := by
  unfold noted
  rw [if_pos (by simpa using h)]

theorem due0 (hd : (da, od) ∈ news) (hdo : od.IsDictOf (strKind PR w) (D4 u (.str ws t) (.ref mi) e)) (U : UpdF da od news gd) (hv : (Mine.hd.heap_39 w.params).lookup va = some (tupO [v, .str q tq])) (hp : Pair v q) (hn : v ≠ .none) :
    Ct w 2 661 [.ref da, .int 0 tw, .ref va, .ref pa] news fun r₁ l => ∃ rl od' t' tx, r₁ = .ref rl ∧ od'.IsDictOf (strKind PR w) (D4 (.str (q) tx) (.str ws t) (.ref mi) e) ∧ l = (rl, okL t') :: gd od' := by
  unfold Ct
  intros
  rename_i hret
  k_dflt (refine' code_def (binds := [(Str.ofString "d", .ref da), (Str.ofString "what", .int 0 tw), (Str.ofString "value", .ref va), (Str.ofString "place_value", .ref pa)]) ?k1 ?k2 ?k3 ?k4 ?k5 ?kA ?kF ?kK ?k6 ?k7 ?k8 ?k9 ?kB ?_ ?c2 ?c3 ?c4 ?c5; (case kA => exact rfl); (case kF => exact rfl); (case kK => assumption); (case k1 => k_asm); (case k2 => k_asm); (case k3 => k_asm); (case k4 => k_asm); (case k5 => k_asm); (case k6 => k_is); (case k7 => k_is); (case k8 => ktr_room); (case k9 => walk_at "mBind"); (case c5 => decide); (case kB => exact locs rfl); (case c2 => exact rfl); (case c3 => exact rfl); (case c4 => exact rfl); k_whole; intro g' L' h' FG' F' N' B' X' T'; (try dsimp only); (try simp only [List.reverse_cons, List.reverse_nil, List.nil_append, List.cons_append] at F'); (try k_fold))
  k_steps
  exact hret _ _ _ _ ⟨_, _, _, _, rfl, by assumption, rfl⟩ (by assumption) (by assumption)

theorem due0n (hd : (da, od) ∈ news) (hdo : od.IsDictOf (strKind PR w) (D4 u (.str ws t) (.ref mi) e)) (hv : (Mine.hd.heap_39 w.params).lookup va = some (tupO [.none, .str q tq])) :
    Ct w 2 661 [.ref da, .int 0 tw, .ref va, .ref pa] news fun r₁ l => ∃ rl t' t'', r₁ = .ref rl ∧ l = (rl, errL t' t'') :: news := by
  unfold Ct
  intros
  rename_i hret
  k_dflt (refine' code_def (binds := [(Str.ofString "d", .ref da), (Str.ofString "what", .int 0 tw), (Str.ofString "value", .ref va), (Str.ofString "place_value", .ref pa)]) ?k1 ?k2 ?k3 ?k4 ?k5 ?kA ?kF ?kK ?k6 ?k7 ?k8 ?k9 ?kB ?_ ?c2 ?c3 ?c4 ?c5; (case kA => exact rfl); (case kF => exact rfl); (case kK => assumption); (case k1 => k_asm); (case k2 => k_asm); (case k3 => k_asm); (case k4 => k_asm); (case k5 => k_asm); (case k6 => k_is); (case k7 => k_is); (case k8 => ktr_room); (case k9 => walk_at "mBind"); (case c5 => decide); (case kB => exact locs rfl); (case c2 => exact rfl); (case c3 => exact rfl); (case c4 => exact rfl); k_whole; intro g' L' h' FG' F' N' B' X' T'; (try dsimp only); (try simp only [List.reverse_cons, List.reverse_nil, List.nil_append, List.cons_append] at F'); (try k_fold))
  k_steps
  exact hret _ _ _ _ ⟨_, _, _, rfl, rfl⟩ (by assumption) (by assumption)

theorem due1 (hd : (da, od) ∈ news) (hdo : od.IsDictOf (strKind PR w) (D4 u (.str ws t) (.ref mi) e)) (U : UpdF da od news gd) (hv : (Mine.hd.heap_39 w.params).lookup va = some (tupO [v, .str q tq])) (hp : Pair v q) (hn : v ≠ .none) :
    Ct w 2 661 [.ref da, .int 1 tw, .ref va, .ref pa] news fun r₁ l => ∃ rl od' t' tx, r₁ = .ref rl ∧ od'.IsDictOf (strKind PR w) (D4 (.str (q) tx) (.str ws t) (.ref mi) e) ∧ l = (rl, okL t') :: gd od' := by
  unfold Ct
  intros
  rename_i hret
  k_dflt (refine' code_def (binds := [(Str.ofString "d", .ref da), (Str.ofString "what", .int 1 tw), (Str.ofString "value", .ref va), (Str.ofString "place_value", .ref pa)]) ?k1 ?k2 ?k3 ?k4 ?k5 ?kA ?kF ?kK ?k6 ?k7 ?k8 ?k9 ?kB ?_ ?c2 ?c3 ?c4 ?c5; (case kA => exact rfl); (case kF => exact rfl); (case kK => assumption); (case k1 => k_asm); (case k2 => k_asm); (case k3 => k_asm); (case k4 => k_asm); (case k5 => k_asm); (case k6 => k_is); (case k7 => k_is); (case k8 => ktr_room); (case k9 => walk_at "mBind"); (case c5 => decide); (case kB => exact locs rfl); (case c2 => exact rfl); (case c3 => exact rfl); (case c4 => exact rfl); k_whole; intro g' L' h' FG' F' N' B' X' T'; (try dsimp only); (try simp only [List.reverse_cons, List.reverse_nil, List.nil_append, List.cons_append] at F'); (try k_fold))
  k_steps
  exact hret _ _ _ _ ⟨_, _, _, _, rfl, by assumption, rfl⟩ (by assumption) (by assumption)

theorem due1n (hd : (da, od) ∈ news) (hdo : od.IsDictOf (strKind PR w) (D4 u (.str ws t) (.ref mi) e)) (hv : (Mine.hd.heap_39 w.params).lookup va = some (tupO [.none, .str q tq])) :
    Ct w 2 661 [.ref da, .int 1 tw, .ref va, .ref pa] news fun r₁ l => ∃ rl t' t'', r₁ = .ref rl ∧ l = (rl, errL t' t'') :: news := by
  unfold Ct
  intros
  rename_i hret
  k_dflt (refine' code_def (binds := [(Str.ofString "d", .ref da), (Str.ofString "what", .int 1 tw), (Str.ofString "value", .ref va), (Str.ofString "place_value", .ref pa)]) ?k1 ?k2 ?k3 ?k4 ?k5 ?kA ?kF ?kK ?k6 ?k7 ?k8 ?k9 ?kB ?_ ?c2 ?c3 ?c4 ?c5; (case kA => exact rfl); (case kF => exact rfl); (case kK => assumption); (case k1 => k_asm); (case k2 => k_asm); (case k3 => k_asm); (case k4 => k_asm); (case k5 => k_asm); (case k6 => k_is); (case k7 => k_is); (case k8 => ktr_room); (case k9 => walk_at "mBind"); (case c5 => decide); (case kB => exact locs rfl); (case c2 => exact rfl); (case c3 => exact rfl); (case c4 => exact rfl); k_whole; intro g' L' h' FG' F' N' B' X' T'; (try dsimp only); (try simp only [List.reverse_cons, List.reverse_nil, List.nil_append, List.cons_append] at F'); (try k_fold))
  k_steps
  exact hret _ _ _ _ ⟨_, _, _, rfl, rfl⟩ (by assumption) (by assumption)

theorem due2 (hd : (da, od) ∈ news) (hdo : od.IsDictOf (strKind PR w) (D4 u (.str ws t) (.ref mi) e)) (U : UpdF da od news gd) (hv : (Mine.hd.heap_39 w.params).lookup va = some (tupO [v, .str q tq])) (hp : Pair v q) (hn : v ≠ .none) :
    Ct w 2 661 [.ref da, .int 2 tw, .ref va, .ref pa] news fun r₁ l => ∃ rl od' t' tx, r₁ = .ref rl ∧ od'.IsDictOf (strKind PR w) (D4 u (.str (q) tx) (.ref mi) e) ∧ l = (rl, okL t') :: gd od' := by
  unfold Ct
  intros
  rename_i hret
  k_dflt (refine' code_def (binds := [(Str.ofString "d", .ref da), (Str.ofString "what", .int 2 tw), (Str.ofString "value", .ref va), (Str.ofString "place_value", .ref pa)]) ?k1 ?k2 ?k3 ?k4 ?k5 ?kA ?kF ?kK ?k6 ?k7 ?k8 ?k9 ?kB ?_ ?c2 ?c3 ?c4 ?c5; (case kA => exact rfl); (case kF => exact rfl); (case kK => assumption); (case k1 => k_asm); (case k2 => k_asm); (case k3 => k_asm); (case k4 => k_asm); (case k5 => k_asm); (case k6 => k_is); (case k7 => k_is); (case k8 => ktr_room); (case k9 => walk_at "mBind"); (case c5 => decide); (case kB => exact locs rfl); (case c2 => exact rfl); (case c3 => exact rfl); (case c4 => exact rfl); k_whole; intro g' L' h' FG' F' N' B' X' T'; (try dsimp only); (try simp only [List.reverse_cons, List.reverse_nil, List.nil_append, List.cons_append] at F'); (try k_fold))
  k_steps
  exact hret _ _ _ _ ⟨_, _, _, _, rfl, by assumption, rfl⟩ (by assumption) (by assumption)

theorem due2n (hd : (da, od) ∈ news) (hdo : od.IsDictOf (strKind PR w) (D4 u (.str ws t) (.ref mi) e)) (hv : (Mine.hd.heap_39 w.params).lookup va = some (tupO [.none, .str q tq])) :
    Ct w 2 661 [.ref da, .int 2 tw, .ref va, .ref pa] news fun r₁ l => ∃ rl t', r₁ = .ref rl ∧ l = (rl, okL t') :: news := by
  unfold Ct
  intros
  rename_i hret
  k_dflt (refine' code_def (binds := [(Str.ofString "d", .ref da), (Str.ofString "what", .int 2 tw), (Str.ofString "value", .ref va), (Str.ofString "place_value", .ref pa)]) ?k1 ?k2 ?k3 ?k4 ?k5 ?kA ?kF ?kK ?k6 ?k7 ?k8 ?k9 ?kB ?_ ?c2 ?c3 ?c4 ?c5; (case kA => exact rfl); (case kF => exact rfl); (case kK => assumption); (case k1 => k_asm); (case k2 => k_asm); (case k3 => k_asm); (case k4 => k_asm); (case k5 => k_asm); (case k6 => k_is); (case k7 => k_is); (case k8 => ktr_room); (case k9 => walk_at "mBind"); (case c5 => decide); (case kB => exact locs rfl); (case c2 => exact rfl); (case c3 => exact rfl); (case c4 => exact rfl); k_whole; intro g' L' h' FG' F' N' B' X' T'; (try dsimp only); (try simp only [List.reverse_cons, List.reverse_nil, List.nil_append, List.cons_append] at F'); (try k_fold))
  k_steps
  exact hret _ _ _ _ ⟨_, _, rfl, rfl⟩ (by assumption) (by assumption)

theorem due3 (hd : (da, od) ∈ news) (hdo : od.IsDictOf (strKind PR w) (D4 u (.str ws t) (.ref mi) e)) (U : UpdF da od news gd) (hv : (Mine.hd.heap_39 w.params).lookup va = some (tupO [v, .str q tq])) (hp : Pair v q) (hn : v ≠ .none) :
    Ct w 2 661 [.ref da, .int 3 tw, .ref va, .ref pa] news fun r₁ l => ∃ rl od' t' tx, r₁ = .ref rl ∧ od'.IsDictOf (strKind PR w) (D4 u (.str (q) tx) (.ref mi) e) ∧ l = (rl, okL t') :: gd od' := by
  unfold Ct
  intros
  rename_i hret
  k_dflt (refine' code_def (binds := [(Str.ofString "d", .ref da), (Str.ofString "what", .int 3 tw), (Str.ofString "value", .ref va), (Str.ofString "place_value", .ref pa)]) ?k1 ?k2 ?k3 ?k4 ?k5 ?kA ?kF ?kK ?k6 ?k7 ?k8 ?k9 ?kB ?_ ?c2 ?c3 ?c4 ?c5; (case kA => exact rfl); (case kF => exact rfl); (case kK => assumption); (case k1 => k_asm); (case k2 => k_asm); (case k3 => k_asm); (case k4 => k_asm); (case k5 => k_asm); (case k6 => k_is); (case k7 => k_is); (case k8 => ktr_room); (case k9 => walk_at "mBind"); (case c5 => decide); (case kB => exact locs rfl); (case c2 => exact rfl); (case c3 => exact rfl); (case c4 => exact rfl); k_whole; intro g' L' h' FG' F' N' B' X' T'; (try dsimp only); (try simp only [List.reverse_cons, List.reverse_nil, List.nil_append, List.cons_append] at F'); (try k_fold))
  k_steps
  exact hret _ _ _ _ ⟨_, _, _, _, rfl, by assumption, rfl⟩ (by assumption) (by assumption)

theorem due3n (hd : (da, od) ∈ news) (hdo : od.IsDictOf (strKind PR w) (D4 u (.str ws t) (.ref mi) e)) (hv : (Mine.hd.heap_39 w.params).lookup va = some (tupO [.none, .str q tq])) :
    Ct w 2 661 [.ref da, .int 3 tw, .ref va, .ref pa] news fun r₁ l => ∃ rl t', r₁ = .ref rl ∧ l = (rl, okL t') :: news := by
  unfold Ct
  intros
  rename_i hret
  k_dflt (refine' code_def (binds := [(Str.ofString "d", .ref da), (Str.ofString "what", .int 3 tw), (Str.ofString "value", .ref va), (Str.ofString "place_value", .ref pa)]) ?k1 ?k2 ?k3 ?k4 ?k5 ?kA ?kF ?kK ?k6 ?k7 ?k8 ?k9 ?kB ?_ ?c2 ?c3 ?c4 ?c5; (case kA => exact rfl); (case kF => exact rfl); (case kK => assumption); (case k1 => k_asm); (case k2 => k_asm); (case k3 => k_asm); (case k4 => k_asm); (case k5 => k_asm); (case k6 => k_is); (case k7 => k_is); (case k8 => ktr_room); (case k9 => walk_at "mBind"); (case c5 => decide); (case kB => exact locs rfl); (case c2 => exact rfl); (case c3 => exact rfl); (case c4 => exact rfl); k_whole; intro g' L' h' FG' F' N' B' X' T'; (try dsimp only); (try simp only [List.reverse_cons, List.reverse_nil, List.nil_append, List.cons_append] at F'); (try k_fold))
  k_steps
  exact hret _ _ _ _ ⟨_, _, rfl, rfl⟩ (by assumption) (by assumption)

theorem due4 (hd : (da, od) ∈ news) (hdo : od.IsDictOf (strKind PR w) (D4 u (.str ws t) (.ref mi) e)) (U : UpdF da od news gd) (hv : (Mine.hd.heap_39 w.params).lookup va = some (tupO [v, .str q tq])) (hp : Pair v q) (hn : v ≠ .none) (hq : q.length ≤ 8) (hdl : ws.length ≤ 1000) :
    Ct w 2 661 [.ref da, .int 4 tw, .ref va, .ref pa] news fun r₁ l => ∃ rl od' t' tx, r₁ = .ref rl ∧ od'.IsDictOf (strKind PR w) (D4 u (.str (noted ws q) tx) (.ref mi) e) ∧ l = (rl, okL t') :: gd od' := by
  unfold Ct
  intros
  rename_i hret
  k_dflt (refine' code_def (binds := [(Str.ofString "d", .ref da), (Str.ofString "what", .int 4 tw), (Str.ofString "value", .ref va), (Str.ofString "place_value", .ref pa)]) ?k1 ?k2 ?k3 ?k4 ?k5 ?kA ?kF ?kK ?k6 ?k7 ?k8 ?k9 ?kB ?_ ?c2 ?c3 ?c4 ?c5; (case kA => exact rfl); (case kF => exact rfl); (case kK => assumption); (case k1 => k_asm); (case k2 => k_asm); (case k3 => k_asm); (case k4 => k_asm); (case k5 => k_asm); (case k6 => k_is); (case k7 => k_is); (case k8 => ktr_room); (case k9 => walk_at "mBind"); (case c5 => decide); (case kB => exact locs rfl); (case c2 => exact rfl); (case c3 => exact rfl); (case c4 => exact rfl); k_whole; intro g' L' h' FG' F' N' B' X' T'; (try dsimp only); (try simp only [List.reverse_cons, List.reverse_nil, List.nil_append, List.cons_append] at F'); (try k_fold))
  k_steps
  · exact hret _ _ _ _ ⟨_, _, _, _, rfl, by rw [← law_on (by assumption)]; assumption, rfl⟩ (by assumption) (by assumption)
  · exact hret _ _ _ _ ⟨_, _, _, _, rfl, by rw [← law_new (by assumption)]; assumption, rfl⟩ (by assumption) (by assumption)

theorem due4n (hd : (da, od) ∈ news) (hdo : od.IsDictOf (strKind PR w) (D4 u (.str ws t) (.ref mi) e)) (hv : (Mine.hd.heap_39 w.params).lookup va = some (tupO [.none, .str q tq])) :
    Ct w 2 661 [.ref da, .int 4 tw, .ref va, .ref pa] news fun r₁ l => ∃ rl t', r₁ = .ref rl ∧ l = (rl, okL t') :: news := by
  unfold Ct
  intros
  rename_i hret
  k_dflt (refine' code_def (binds := [(Str.ofString "d", .ref da), (Str.ofString "what", .int 4 tw), (Str.ofString "value", .ref va), (Str.ofString "place_value", .ref pa)]) ?k1 ?k2 ?k3 ?k4 ?k5 ?kA ?kF ?kK ?k6 ?k7 ?k8 ?k9 ?kB ?_ ?c2 ?c3 ?c4 ?c5; (case kA => exact rfl); (case kF => exact rfl); (case kK => assumption); (case k1 => k_asm); (case k2 => k_asm); (case k3 => k_asm); (case k4 => k_asm); (case k5 => k_asm); (case k6 => k_is); (case k7 => k_is); (case k8 => ktr_room); (case k9 => walk_at "mBind"); (case c5 => decide); (case kB => exact locs rfl); (case c2 => exact rfl); (case c3 => exact rfl); (case c4 => exact rfl); k_whole; intro g' L' h' FG' F' N' B' X' T'; (try dsimp only); (try simp only [List.reverse_cons, List.reverse_nil, List.nil_append, List.cons_append] at F'); (try k_fold))
  k_steps
  exact hret _ _ _ _ ⟨_, _, rfl, rfl⟩ (by assumption) (by assumption)

theorem due5 (hd : (da, od) ∈ news) (hdo : od.IsDictOf (strKind PR w) (D4 u (.str ws t) (.ref mi) e)) (U : UpdF da od news gd) (hv : (Mine.hd.heap_39 w.params).lookup va = some (tupO [v, .str q tq])) (hp : Pair v q) (hq : q.length ≤ 8) (hrl : r.length ≤ 8) (hpv : (Mine.hd.heap_39 w.params).lookup pa = some (tupO [pv, .str r tr])) :
    Ct w 2 661 [.ref da, .int 5 tw, .ref va, .ref pa] news fun r₁ l => ∃ rl od' t' tx, r₁ = .ref rl ∧ od'.IsDictOf (strKind PR w) (D4 (.str (r ++ Str.ofString " " ++ q) tx) (.str ws t) (.ref mi) e) ∧ l = (rl, okL t') :: gd od' := by
  unfold Ct
  intros
  rename_i hret
  k_dflt (refine' code_def (binds := [(Str.ofString "d", .ref da), (Str.ofString "what", .int 5 tw), (Str.ofString "value", .ref va), (Str.ofString "place_value", .ref pa)]) ?k1 ?k2 ?k3 ?k4 ?k5 ?kA ?kF ?kK ?k6 ?k7 ?k8 ?k9 ?kB ?_ ?c2 ?c3 ?c4 ?c5; (case kA => exact rfl); (case kF => exact rfl); (case kK => assumption); (case k1 => k_asm); (case k2 => k_asm); (case k3 => k_asm); (case k4 => k_asm); (case k5 => k_asm); (case k6 => k_is); (case k7 => k_is); (case k8 => ktr_room); (case k9 => walk_at "mBind"); (case c5 => decide); (case kB => exact locs rfl); (case c2 => exact rfl); (case c3 => exact rfl); (case c4 => exact rfl); k_whole; intro g' L' h' FG' F' N' B' X' T'; (try dsimp only); (try simp only [List.reverse_cons, List.reverse_nil, List.nil_append, List.cons_append] at F'); (try k_fold))
  k_steps
  exact hret _ _ _ _ ⟨_, _, _, _, rfl, by assumption, rfl⟩ (by assumption) (by assumption)

theorem due6 (hd : (da, od) ∈ news) (hdo : od.IsDictOf (strKind PR w) (D4 u (.str ws t) (.ref mi) e)) (U : UpdF da od news gd) (hv : (Mine.hd.heap_39 w.params).lookup va = some (tupO [v, .str q tq])) (hp : Pair v q) (hq : q.length ≤ 8) :
    Ct w 2 661 [.ref da, .int 6 tw, .ref va, .ref pa] news fun r₁ l => ∃ rl od' t' tx, r₁ = .ref rl ∧ od'.IsDictOf (strKind PR w) (D4 (.str (Str.ofString "/ " ++ q) tx) (.str ws t) (.ref mi) e) ∧ l = (rl, okL t') :: gd od' := by
  unfold Ct
  intros
  rename_i hret
  k_dflt (refine' code_def (binds := [(Str.ofString "d", .ref da), (Str.ofString "what", .int 6 tw), (Str.ofString "value", .ref va), (Str.ofString "place_value", .ref pa)]) ?k1 ?k2 ?k3 ?k4 ?k5 ?kA ?kF ?kK ?k6 ?k7 ?k8 ?k9 ?kB ?_ ?c2 ?c3 ?c4 ?c5; (case kA => exact rfl); (case kF => exact rfl); (case kK => assumption); (case k1 => k_asm); (case k2 => k_asm); (case k3 => k_asm); (case k4 => k_asm); (case k5 => k_asm); (case k6 => k_is); (case k7 => k_is); (case k8 => ktr_room); (case k9 => walk_at "mBind"); (case c5 => decide); (case kB => exact locs rfl); (case c2 => exact rfl); (case c3 => exact rfl); (case c4 => exact rfl); k_whole; intro g' L' h' FG' F' N' B' X' T'; (try dsimp only); (try simp only [List.reverse_cons, List.reverse_nil, List.nil_append, List.cons_append] at F'); (try k_fold))
  k_steps
  exact hret _ _ _ _ ⟨_, _, _, _, rfl, by assumption, rfl⟩ (by assumption) (by assumption)

theorem due7 (hd : (da, od) ∈ news) (hdo : od.IsDictOf (strKind PR w) (D4 u (.str ws t) (.ref mi) e)) (hv : (Mine.hd.heap_39 w.params).lookup va = some (tupO [v, .str q tq])) (hp : Pair v q) (hm : (mi, om) ∈ news) (hmo : om.IsDictOf (strKind PR w) mk) (Um : UpdF mi om news gm) (hz : mk.length ≤ 100) :
    Ct w 2 661 [.ref da, .int 7 tw, .ref va, .ref pa] news fun r₁ l => ∃ rl om' t', r₁ = .ref rl ∧ om'.IsDictOf (strKind PR w) (stored mk (Str.ofString "k") v) ∧ l = (rl, okL t') :: gm om' := by
  unfold Ct
  intros
  rename_i hret
  k_dflt (refine' code_def (binds := [(Str.ofString "d", .ref da), (Str.ofString "what", .int 7 tw), (Str.ofString "value", .ref va), (Str.ofString "place_value", .ref pa)]) ?k1 ?k2 ?k3 ?k4 ?k5 ?kA ?kF ?kK ?k6 ?k7 ?k8 ?k9 ?kB ?_ ?c2 ?c3 ?c4 ?c5; (case kA => exact rfl); (case kF => exact rfl); (case kK => assumption); (case k1 => k_asm); (case k2 => k_asm); (case k3 => k_asm); (case k4 => k_asm); (case k5 => k_asm); (case k6 => k_is); (case k7 => k_is); (case k8 => ktr_room); (case k9 => walk_at "mBind"); (case c5 => decide); (case kB => exact locs rfl); (case c2 => exact rfl); (case c3 => exact rfl); (case c4 => exact rfl); k_whole; intro g' L' h' FG' F' N' B' X' T'; (try dsimp only); (try simp only [List.reverse_cons, List.reverse_nil, List.nil_append, List.cons_append] at F'); (try k_fold))
  k_steps
  exact hret _ _ _ _ ⟨_, _, _, rfl, by assumption, rfl⟩ (by assumption) (by assumption)

theorem due8 (hd : (da, od) ∈ news) (hdo : od.IsDictOf (strKind PR w) (D4 u (.str ws t) (.ref mi) e)) (hv : (Mine.hd.heap_39 w.params).lookup va = some (tupO [v, .str q tq])) (hp : Pair v q) :
    Ct w 2 661 [.ref da, .int 8 tw, .ref va, .ref pa] news fun r₁ l => ∃ rl t', r₁ = .ref rl ∧ l = (rl, okL t') :: news := by
  unfold Ct
  intros
  rename_i hret
  k_dflt (refine' code_def (binds := [(Str.ofString "d", .ref da), (Str.ofString "what", .int 8 tw), (Str.ofString "value", .ref va), (Str.ofString "place_value", .ref pa)]) ?k1 ?k2 ?k3 ?k4 ?k5 ?kA ?kF ?kK ?k6 ?k7 ?k8 ?k9 ?kB ?_ ?c2 ?c3 ?c4 ?c5; (case kA => exact rfl); (case kF => exact rfl); (case kK => assumption); (case k1 => k_asm); (case k2 => k_asm); (case k3 => k_asm); (case k4 => k_asm); (case k5 => k_asm); (case k6 => k_is); (case k7 => k_is); (case k8 => ktr_room); (case k9 => walk_at "mBind"); (case c5 => decide); (case kB => exact locs rfl); (case c2 => exact rfl); (case c3 => exact rfl); (case c4 => exact rfl); k_whole; intro g' L' h' FG' F' N' B' X' T'; (try dsimp only); (try simp only [List.reverse_cons, List.reverse_nil, List.nil_append, List.cons_append] at F'); (try k_fold))
  k_steps
  exact hret _ _ _ _ ⟨_, _, rfl, rfl⟩ (by assumption) (by assumption)

end

end Mine
/- part C8 -/
set_option Elab.async false
set_option maxRecDepth 100000
set_option maxHeartbeats 8000000
namespace Mine
theorem fill_aC8 : PySem.Challenge.rw_ft5041_01 = PySem.Challenge.rw_ft5041_01 ∧ Mine.hd.heap_39 = Mine.hd.heap_39 := by
  k_fill
  exact ⟨rfl, rfl⟩
section
variable {w : World} {x dx : Addr} {news : List (Addr × Obj)} {f : Str → Option (Option Value)} {es : List DictEntry} {n : Nat} {e : Value} {u d q r : Str} {v pv : Value} {tw : Tok} {g : Obj → List (Addr × Obj)}
  {p : Program} {loose : List Str} {mean : ExcName → Option Value} {mg mb : Str → Option Value} {dp un : Nat} {gd : Option (List Code)} {cn : Str} {cs : Scope} {a : Addr} {ccd : Value} {cl : List (Str × Addr)} {outer : List Env}
    {A₀ : Around} {base h₀ : Heap} {L : Addr} {m : Str → Option Value} {s : Shared} {E : Value → Shared → Prop} {expr : Bool}
theorem s_set_user (hp : Pair v q) (hn : v ≠ .none) (U : UpdF dx (dictOf es n) news g) (hx : (x, instObj 522 dx) ∈ news) (hdx : (dx, dictOf es n) ∈ news) (T : TD f es e u d) (B : Below A₀ base outer h₀) (F : Fr h₀ L s.heap m) (X : (Mine.hd.heap_39 w.params).In h₀) (N : News h₀ L s.heap news) (T' : Top p loose mean mg mb h₀) (hk : cs.kind = .function) (hd' : dp + 2 * 3 < recursionLimit) (hu : un + 0 + 10 * 3 < cLine) {Q : Value → Shared → Prop} (h : ∀ (h' : Heap) (tk' : Nat) (es' : List DictEntry) (n' : Nat), TD f es' e q d → Fr h₀ L h' m → News h₀ L h' (g (dictOf es' n')) → Q .none { s with heap := h', toks := tk' }) :
    wpAny (model PR w) (ktrTop dp un gd cn cs L a ccd cl outer) (call (.ref 265) [.ref x, v]) Q E s :=
  (ct_set_user hp hn hx hdx T U).call B F X N T' hk hd' hu fun _ _ h' tk' rr F' N' => by
    obtain ⟨rfl, es', n', T', rfl⟩ := rr
    exact h h' tk' es' n' T' F' N'
theorem s_set_description (hp : Pair v q) (hn : v ≠ .none) (U : UpdF dx (dictOf es n) news g) (hx : (x, instObj 522 dx) ∈ news) (hdx : (dx, dictOf es n) ∈ news) (T : TD f es e u d) (B : Below A₀ base outer h₀) (F : Fr h₀ L s.heap m) (X : (Mine.hd.heap_39 w.params).In h₀) (N : News h₀ L s.heap news) (T' : Top p loose mean mg mb h₀) (hk : cs.kind = .function) (hd' : dp + 2 * 3 < recursionLimit) (hu : un + 0 + 10 * 3 < cLine) {Q : Value → Shared → Prop} (h : ∀ (h' : Heap) (tk' : Nat) (es' : List DictEntry) (n' : Nat), TD f es' e u q → Fr h₀ L h' m → News h₀ L h' (g (dictOf es' n')) → Q .none { s with heap := h', toks := tk' }) :
    wpAny (model PR w) (ktrTop dp un gd cn cs L a ccd cl outer) (call (.ref 272) [.ref x, v]) Q E s :=
  (ct_set_description hp hn hx hdx T U).call B F X N T' hk hd' hu fun _ _ h' tk' rr F' N' => by
    obtain ⟨rfl, es', n', T', rfl⟩ := rr
    exact h h' tk' es' n' T' F' N'
theorem s_set_description_none (hx : (x, instObj 522 dx) ∈ news) (hdx : (dx, dictOf es n) ∈ news) (T : TD f es e u d) (B : Below A₀ base outer h₀) (F : Fr h₀ L s.heap m) (X : (Mine.hd.heap_39 w.params).In h₀) (N : News h₀ L s.heap news) (T' : Top p loose mean mg mb h₀) (hk : cs.kind = .function) (hd' : dp + 2 * 3 < recursionLimit) (hu : un + 0 + 10 * 3 < cLine) {Q : Value → Shared → Prop} (h : ∀ (h' : Heap) (tk' : Nat), Fr h₀ L h' m → News h₀ L h' news → Q .none { s with heap := h', toks := tk' }) :
    wpAny (model PR w) (ktrTop dp un gd cn cs L a ccd cl outer) (call (.ref 272) [.ref x, .none]) Q E s :=
  (ct_set_description_none hx hdx T).call B F X N T' hk hd' hu fun _ _ h' tk' rr F' N' => by
    obtain ⟨rfl, rfl⟩ := rr
    exact h h' tk' F' N'
theorem s_note_none (hx : (x, instObj 522 dx) ∈ news) (hdx : (dx, dictOf es n) ∈ news) (T : TD f es e u d) (B : Below A₀ base outer h₀) (F : Fr h₀ L s.heap m) (X : (Mine.hd.heap_39 w.params).In h₀) (N : News h₀ L s.heap news) (T' : Top p loose mean mg mb h₀) (hk : cs.kind = .function) (hd' : dp + 2 * 3 < recursionLimit) (hu : un + 0 + 10 * 3 < cLine) {Q : Value → Shared → Prop} (h : ∀ (h' : Heap) (tk' : Nat), Fr h₀ L h' m → News h₀ L h' news → Q .none { s with heap := h', toks := tk' }) :
    wpAny (model PR w) (ktrTop dp un gd cn cs L a ccd cl outer) (call (.ref 497) [.ref x, .none]) Q E s :=
  (ct_note_none hx hdx T).call B F X N T' hk hd' hu fun _ _ h' tk' rr F' N' => by
    obtain ⟨rfl, rfl⟩ := rr
    exact h h' tk' F' N'
theorem s_note (hp : Pair v q) (hn : v ≠ .none) (hq : q.length ≤ 8) (hdl : d.length ≤ 1000) (U : UpdF dx (dictOf es n) news g) (hx : (x, instObj 522 dx) ∈ news) (hdx : (dx, dictOf es n) ∈ news) (T : TD f es e u d) (B : Below A₀ base outer h₀) (F : Fr h₀ L s.heap m) (X : (Mine.hd.heap_39 w.params).In h₀) (N : News h₀ L s.heap news) (T' : Top p loose mean mg mb h₀) (hk : cs.kind = .function) (hd' : dp + 2 * 3 < recursionLimit) (hu : un + 0 + 10 * 3 < cLine) {Q : Value → Shared → Prop} (h : ∀ (h' : Heap) (tk' : Nat) (es' : List DictEntry) (n' : Nat), TD f es' e u (noted d q) → Fr h₀ L h' m → News h₀ L h' (g (dictOf es' n')) → Q .none { s with heap := h', toks := tk' }) :
    wpAny (model PR w) (ktrTop dp un gd cn cs L a ccd cl outer) (call (.ref 497) [.ref x, v]) Q E s :=
  (ct_note hq hdl hp hn hx hdx T U).call B F X N T' hk hd' hu fun _ _ h' tk' rr F' N' => by
    obtain ⟨rfl, es', n', T', rfl⟩ := rr
    exact h h' tk' es' n' T' F' N'
theorem s_setUser (hp : Pair v q) (hpr : Pair pv r) (hq : q.length ≤ 8) (hr : r.length ≤ 8) (U : UpdF dx (dictOf es n) news g) (hx : (x, instObj 522 dx) ∈ news) (hdx : (dx, dictOf es n) ∈ news) (T : TD f es e u d) (B : Below A₀ base outer h₀) (F : Fr h₀ L s.heap m) (X : (Mine.hd.heap_39 w.params).In h₀) (N : News h₀ L s.heap news) (T' : Top p loose mean mg mb h₀) (hk : cs.kind = .function) (hd' : dp + 2 * 3 < recursionLimit) (hu : un + 0 + 10 * 3 < cLine) {Q : Value → Shared → Prop} (h : ∀ (h' : Heap) (tk' : Nat) (es' : List DictEntry) (n' : Nat), TD f es' e (r ++ Str.ofString " " ++ q) d → Fr h₀ L h' m → News h₀ L h' (g (dictOf es' n')) → Q .none { s with heap := h', toks := tk' }) :
    wpAny (model PR w) (ktrTop dp un gd cn cs L a ccd cl outer) (call (.ref 505) [.ref x, v, pv]) Q E s :=
  (ct_setUser hq hr hp hpr hx hdx T U).call B F X N T' hk hd' hu fun _ _ h' tk' rr F' N' => by
    obtain ⟨rfl, es', n', T', rfl⟩ := rr
    exact h h' tk' es' n' T' F' N'
theorem s_setUser1 (hp : Pair v q) (hq : q.length ≤ 8) (U : UpdF dx (dictOf es n) news g) (hx : (x, instObj 522 dx) ∈ news) (hdx : (dx, dictOf es n) ∈ news) (T : TD f es e u d) (B : Below A₀ base outer h₀) (F : Fr h₀ L s.heap m) (X : (Mine.hd.heap_39 w.params).In h₀) (N : News h₀ L s.heap news) (T' : Top p loose mean mg mb h₀) (hk : cs.kind = .function) (hd' : dp + 2 * 3 < recursionLimit) (hu : un + 0 + 10 * 3 < cLine) {Q : Value → Shared → Prop} (h : ∀ (h' : Heap) (tk' : Nat) (es' : List DictEntry) (n' : Nat), TD f es' e (Str.ofString "/ " ++ q) d → Fr h₀ L h' m → News h₀ L h' (g (dictOf es' n')) → Q .none { s with heap := h', toks := tk' }) :
    wpAny (model PR w) (ktrTop dp un gd cn cs L a ccd cl outer) (call (.ref 505) [.ref x, v]) Q E s :=
  (ct_setUser1 hq hp hx hdx T U).call B F X N T' hk hd' hu fun _ _ h' tk' rr F' N' => by
    obtain ⟨rfl, es', n', T', rfl⟩ := rr
    exact h h' tk' es' n' T' F' N'
theorem s_info {ea : Addr} {eo : Obj} {kvs : List (Str × Value)} {k : Str} {t : Tok} {ge : Obj → List (Addr × Obj)} (hx : (x, instObj 522 dx) ∈ news) (hdx : (dx, dictOf es n) ∈ news) (T : TD f es (.ref ea) u d) (hea : handedIn (.ref ea) = true) (hm : (ea, eo) ∈ news) (hke : eo.IsDictOf (strKind PR w) kvs) (U : UpdF ea eo news ge) (hz : kvs.length ≤ 100) (B : Below A₀ base outer h₀) (F : Fr h₀ L s.heap m) (X : (Mine.hd.heap_39 w.params).In h₀) (N : News h₀ L s.heap news) (T' : Top p loose mean mg mb h₀) (hk : cs.kind = .function) (hd' : dp + 2 * 3 < recursionLimit) (hu : un + 0 + 10 * 3 < cLine) {Q : Value → Shared → Prop} (h : ∀ (h' : Heap) (tk' : Nat) (eo' : Obj), eo'.IsDictOf (strKind PR w) (stored kvs k v) → Fr h₀ L h' m → News h₀ L h' (ge eo') → Q .none { s with heap := h', toks := tk' }) :
    wpAny (model PR w) (ktrTop dp un gd cn cs L a ccd cl outer) (call (.ref 512) [.ref x, .str k t, v]) Q E s :=
  (ct_setExtendedInfo hx hdx T hea hm hke U hz).call B F X N T' hk hd' hu fun _ _ h' tk' rr F' N' => by
    obtain ⟨rfl, eo', hk', rfl⟩ := rr
    exact h h' tk' eo' hk' F' N'
end
theorem fill_C8 : PySem.Challenge.rw_ft5041_01 = PySem.Challenge.rw_ft5041_01 ∧ Mine.hd.heap_39 = Mine.hd.heap_39 := by
  k_fill
  exact ⟨rfl, rfl⟩
local macro_rules | `(tactic| k_mem) => `(tactic| with_reducible assumption)
local macro_rules | `(tactic| k_updF) => `(tactic| with_reducible assumption)
local macro_rules | `(tactic| walk_at "mA") => `(tactic| with_reducible assumption)
local macro_rules | `(tactic| walk_at "mK") => `(tactic| first | with_reducible assumption | rfl)
local macro_rules | `(tactic| walk_at "getAttr ref") => `(tactic| (k_here; (with_reducible show wpAny _ _ (getAttr (Value.ref _) (PySem.Str.ofString "extension") _) _ _ _); refine t_ext (by walk_at "mA") (by walk_at "mA") (by walk_at "mA") (by walk_at "mA") (by walk_at "mA") (by walk_at "mA") (by walk_at "mA") ?_))
local macro_rules | `(tactic| walk_at "getAttr ref") => `(tactic| (k_here; (with_reducible show wpAny _ _ (getAttr (Value.ref _) (PySem.Str.ofString "user") _) _ _ _); k_dflt (refine s_user (by walk_at "mA") (by walk_at "mA") (by walk_at "mA") (by walk_at "mA") (by walk_at "mA") (by walk_at "mA") (by walk_at "mA") (by walk_at "mA") (by walk_at "mK") (by ktr_room) (by ktr_units) ?_); intro t9 h9 tk9 F9 N9))
local macro_rules | `(tactic| walk_at "getAttr ref") => `(tactic| (k_here; (with_reducible show wpAny _ _ (getAttr (Value.ref _) (PySem.Str.ofString "description") _) _ _ _); k_dflt (refine s_desc (by walk_at "mA") (by walk_at "mA") (by walk_at "mA") (by walk_at "mA") (by walk_at "mA") (by walk_at "mA") (by walk_at "mA") (by walk_at "mA") (by walk_at "mK") (by ktr_room) (by ktr_units) ?_); intro t9 h9 tk9 F9 N9))
local macro_rules | `(tactic| walk_at "setAttr ref") => `(tactic| (k_here; (with_reducible show wpAny _ _ (setAttr (Value.ref _) (PySem.Str.ofString "_user") _) _ _ _); refine t_setUser (by walk_at "mA") (by walk_at "mA") (by walk_at "mA") (by walk_at "mA") (by walk_at "mA") (by walk_at "mA") (by walk_at "mA") ?_; intro h9 es9 n9 T9 F9 N9))
local macro_rules | `(tactic| walk_at "setAttr ref") => `(tactic| (k_here; (with_reducible show wpAny _ _ (setAttr (Value.ref _) (PySem.Str.ofString "_description") _) _ _ _); refine t_setDesc (by walk_at "mA") (by walk_at "mA") (by walk_at "mA") (by walk_at "mA") (by walk_at "mA") (by walk_at "mA") (by walk_at "mA") ?_; intro h9 es9 n9 T9 F9 N9))
local macro_rules | `(tactic| walk_at "call ref") => `(tactic| (k_here; (with_reducible show wpAny _ _ (PySem.call (Value.ref 632) _ _) _ _ _); k_dflt (refine s_tow (by walk_at "mP") (by walk_at "mA") (by walk_at "mA") (by walk_at "mA") (by walk_at "mA") (by walk_at "mA") (by walk_at "mK") (by ktr_room) (by ktr_units) ?_); intro t9 h9 tk9 F9 N9))
local macro_rules | `(tactic| walk_at "compareOp Is") => `(tactic| (k_here; (with_reducible show wpAny _ _ (compareOp CmpOp.Is _ Value.none) _ _ _); first | refine is_none_pair (by walk_at "mA") (by walk_at "mA") ?_ | refine is_any_pair (by walk_at "mA") ?_))
local macro_rules | `(tactic| walk_at "compareOp IsNot") => `(tactic| (k_here; (with_reducible show wpAny _ _ (compareOp CmpOp.IsNot _ Value.none) _ _ _); refine isnot_none_pair (by walk_at "mA") (by walk_at "mA") ?_))
local macro_rules | `(tactic| walk_at "mBind") => `(tactic| first | exact BindsTo.of_eq rfl | exact binds_K (by k_in) rfl (by k_is) rfl rfl rfl)
local macro_rules | `(tactic| walk_at "mP") => `(tactic| first | with_reducible assumption | exact Pair.str _ _)
local macro_rules | `(tactic| walk_at "mNN") => `(tactic| first | with_reducible assumption | (intro e9; cases e9))
local macro_rules | `(tactic| walk_at "setAttr ref") => `(tactic| (k_here; (with_reducible show wpAny _ _ (setAttr (Value.ref _) (PySem.Str.ofString "user") _) _ _ _); k_dflt (refine s_setUserP (by walk_at "mP") (by walk_at "mNN") (by walk_at "mA") (by walk_at "mA") (by walk_at "mA") (by walk_at "mA") (by walk_at "mA") (by walk_at "mA") (by walk_at "mA") (by walk_at "mA") (by walk_at "mA") (by walk_at "mK") (by ktr_room) (by ktr_units) ?_); intro h9 tk9 es9 n9 T9 F9 N9))
local macro_rules | `(tactic| walk_at "setAttr ref") => `(tactic| (k_here; (with_reducible show wpAny _ _ (setAttr (Value.ref _) (PySem.Str.ofString "description") _) _ _ _); k_dflt (refine s_setDescP (by walk_at "mP") (by walk_at "mNN") (by walk_at "mA") (by walk_at "mA") (by walk_at "mA") (by walk_at "mA") (by walk_at "mA") (by walk_at "mA") (by walk_at "mA") (by walk_at "mA") (by walk_at "mA") (by walk_at "mK") (by ktr_room) (by ktr_units) ?_); intro h9 tk9 es9 n9 T9 F9 N9))
local macro_rules | `(tactic| walk_at "setAttr ref") => `(tactic| (k_here; (with_reducible show wpAny _ _ (setAttr (Value.ref _) (PySem.Str.ofString "description") Value.none) _ _ _); k_dflt (refine s_setDescNone (by walk_at "mA") (by walk_at "mA") (by walk_at "mA") (by walk_at "mA") (by walk_at "mA") (by walk_at "mA") (by walk_at "mA") (by walk_at "mA") (by walk_at "mK") (by ktr_room) (by ktr_units) ?_); intro h9 tk9 F9 N9))
local macro_rules | `(tactic| walk_at "mSz") => `(tactic| first | with_reducible assumption | (rw [sizeLine_eq]; omega) | omega | ((try simp only [Str.length_append]); (try rw [sizeLine_eq]); omega))
local macro_rules | `(tactic| walk_at "call builtin:str.strip") => `(tactic| (k_here; (refine SCL.strip (hsz := by walk_at "mSz") ?_); intro t9 k9 hl9))
local macro_rules | `(tactic| walk_at "binaryOp Add str str") => `(tactic| (k_here; (refine KOpn.add (by walk_at "mSz") ?_); intro t9 k9 hl9))
local macro_rules | `(tactic| walk_at "getMethod ref") => `(tactic| (k_here; k_dflt (refine t_meth (by walk_at "mA") (by walk_at "mA") (by walk_at "mA") (by walk_at "mA") (by walk_at "mA") (by walk_at "mA") (by decide +kernel) (by k_is) (by k_is) (by k_is) ?_)))
local macro_rules | `(tactic| walk_at "mR") => `(tactic| exact rfl)
local macro_rules | `(tactic| walk_at "execs cons If") => `(tactic| (k_here; (with_reducible show wpAny _ _ (execs (Stmt.If (Expr.Compare (Expr.Name (PySem.Str.ofString "what") _) [CmpOp.Eq] [Expr.Constant (Const.int _) _ _] _) _ [] _ :: _) _) _ _ _); k_dflt (refine skipA (by walk_at "mA") (by walk_at "mR") (by decide) (by walk_at "mR") (by walk_at "mR") (by decide) ?_); intro tk9))
local macro_rules | `(tactic| walk_at "execs cons If") => `(tactic| (k_here; (with_reducible show wpAny _ _ (execs (Stmt.If (Expr.BoolOp BoolOp.Or [Expr.Compare (Expr.Name (PySem.Str.ofString "what") _) [CmpOp.Eq] [Expr.Constant (Const.int _) _ _] _, _] _) _ [] _ :: _) _) _ _ _); k_dflt (refine skipB (by walk_at "mA") (by walk_at "mR") (by decide) (by decide) (by walk_at "mR") (by walk_at "mR") (by decide) ?_); intro tk9))
local macro_rules | `(tactic| walk_at "execs cons If") => `(tactic| (k_here; (with_reducible show wpAny _ _ (execs (Stmt.If (Expr.BoolOp BoolOp.And [Expr.BoolOp BoolOp.Or [Expr.Compare (Expr.Name (PySem.Str.ofString "what") _) [CmpOp.Eq] [Expr.Constant (Const.int _) _ _] _, _] _, _] _) _ [] _ :: _) _) _ _ _); k_dflt (refine skipC (by walk_at "mA") (by walk_at "mR") (by decide) (by decide) (by walk_at "mR") (by walk_at "mR") (by decide) ?_); intro tk9))
local macro_rules | `(tactic| walk_at "execs cons If") => `(tactic| (k_here; (with_reducible show wpAny _ _ (execs (Stmt.If (Expr.BoolOp BoolOp.And [Expr.Compare (Expr.Name (PySem.Str.ofString "what") _) [CmpOp.Eq] [Expr.Constant (Const.int _) _ _] _, _] _) _ [] _ :: _) _) _ _ _); k_dflt (refine skipD (by walk_at "mA") (by walk_at "mR") (by decide) (by walk_at "mR") (by walk_at "mR") (by decide) ?_); intro tk9))
local macro_rules | `(tactic| walk_at "call ref") => `(tactic| (k_here; (with_reducible show wpAny _ _ (PySem.call (Value.ref 265) [_, _] _) _ _ _); k_dflt (refine s_set_user (by walk_at "mP") (by walk_at "mNN") (by walk_at "mA") (by walk_at "mA") (by walk_at "mA") (by walk_at "mA") (by walk_at "mA") (by walk_at "mA") (by walk_at "mA") (by walk_at "mA") (by walk_at "mA") (by walk_at "mK") (by ktr_room) (by ktr_units) ?_); intro h9 tk9 es9 n9 T9 F9 N9))
local macro_rules | `(tactic| walk_at "call ref") => `(tactic| (k_here; (with_reducible show wpAny _ _ (PySem.call (Value.ref 272) [_, _] _) _ _ _); k_dflt (refine s_set_description (by walk_at "mP") (by walk_at "mNN") (by walk_at "mA") (by walk_at "mA") (by walk_at "mA") (by walk_at "mA") (by walk_at "mA") (by walk_at "mA") (by walk_at "mA") (by walk_at "mA") (by walk_at "mA") (by walk_at "mK") (by ktr_room) (by ktr_units) ?_); intro h9 tk9 es9 n9 T9 F9 N9))
local macro_rules | `(tactic| walk_at "call ref") => `(tactic| (k_here; (with_reducible show wpAny _ _ (PySem.call (Value.ref 272) [_, Value.none] _) _ _ _); k_dflt (refine s_set_description_none (by walk_at "mA") (by walk_at "mA") (by walk_at "mA") (by walk_at "mA") (by walk_at "mA") (by walk_at "mA") (by walk_at "mA") (by walk_at "mA") (by walk_at "mK") (by ktr_room) (by ktr_units) ?_); intro h9 tk9 F9 N9))
local macro_rules | `(tactic| walk_at "call ref") => `(tactic| (k_here; (with_reducible show wpAny _ _ (PySem.call (Value.ref 497) [_, _] _) _ _ _); k_dflt (refine s_note (by walk_at "mP") (by walk_at "mNN") (by walk_at "mA") (by walk_at "mA") (by walk_at "mA") (by walk_at "mA") (by walk_at "mA") (by walk_at "mA") (by walk_at "mA") (by walk_at "mA") (by walk_at "mA") (by walk_at "mA") (by walk_at "mA") (by walk_at "mK") (by ktr_room) (by ktr_units) ?_); intro h9 tk9 es9 n9 T9 F9 N9))
local macro_rules | `(tactic| walk_at "call ref") => `(tactic| (k_here; (with_reducible show wpAny _ _ (PySem.call (Value.ref 497) [_, Value.none] _) _ _ _); k_dflt (refine s_note_none (by walk_at "mA") (by walk_at "mA") (by walk_at "mA") (by walk_at "mA") (by walk_at "mA") (by walk_at "mA") (by walk_at "mA") (by walk_at "mA") (by walk_at "mK") (by ktr_room) (by ktr_units) ?_); intro h9 tk9 F9 N9))
local macro_rules | `(tactic| walk_at "call ref") => `(tactic| (k_here; (with_reducible show wpAny _ _ (PySem.call (Value.ref 505) [_, _, _] _) _ _ _); k_dflt (refine s_setUser (by walk_at "mP") (by walk_at "mP") (by walk_at "mA") (by walk_at "mA") (by walk_at "mA") (by walk_at "mA") (by walk_at "mA") (by walk_at "mA") (by walk_at "mA") (by walk_at "mA") (by walk_at "mA") (by walk_at "mA") (by walk_at "mA") (by walk_at "mK") (by ktr_room) (by ktr_units) ?_); intro h9 tk9 es9 n9 T9 F9 N9))
local macro_rules | `(tactic| walk_at "call ref") => `(tactic| (k_here; (with_reducible show wpAny _ _ (PySem.call (Value.ref 505) [_, _] _) _ _ _); k_dflt (refine s_setUser1 (by walk_at "mP") (by walk_at "mA") (by walk_at "mA") (by walk_at "mA") (by walk_at "mA") (by walk_at "mA") (by walk_at "mA") (by walk_at "mA") (by walk_at "mA") (by walk_at "mA") (by walk_at "mA") (by walk_at "mK") (by ktr_room) (by ktr_units) ?_); intro h9 tk9 es9 n9 T9 F9 N9))
local macro_rules | `(tactic| walk_at "call ref") => `(tactic| (k_here; (with_reducible show wpAny _ _ (PySem.call (Value.ref 512) [_, _, _] _) _ _ _); k_dflt (refine s_info (by walk_at "mA") (by walk_at "mA") (by walk_at "mA") (by walk_at "mA") (by walk_at "mA") (by walk_at "mA") (by walk_at "mA") (by walk_at "mA") (by walk_at "mA") (by walk_at "mA") (by walk_at "mA") (by walk_at "mA") (by walk_at "mA") (by walk_at "mK") (by ktr_room) (by ktr_units) ?_); intro h9 tk9 eo9 k9 F9 N9))
local macro_rules | `(tactic| walk_at "setAttr ref") => `(tactic| (k_here; (with_reducible show wpAny _ _ (setAttr (Value.ref _) (PySem.Str.ofString "_extension") _) _ _ _); k_dflt (refine s_setExt2 (by walk_at "mA") (by walk_at "mA") (by walk_at "mA") (by walk_at "mA") (by walk_at "mA") (by walk_at "mA") (by walk_at "mA") (by walk_at "mA") (by walk_at "mA") (by walk_at "mK") (by ktr_room) (by ktr_units) ?_); intro h9 tk9 es9 n9 T9 F9 N9))
section
variable {w : World} {x dx ea : Addr} {news : List (Addr × Obj)} {f : Str → Option (Option Value)} {es : List DictEntry} {n : Nat} {e : Value} {u d q r : Str} {v pv oa : Value} {tw : Tok} {g ge : Obj → List (Addr × Obj)} {eo : Obj} {kvs : List (Str × Value)}
theorem act0 (hx : (x, instObj 522 dx) ∈ news) (hd : (dx, dictOf es n) ∈ news) (T : TD f es e u d) (U : UpdF dx (dictOf es n) news g) (hp : Pair v q) (hn : v ≠ .none) : Ct w 5 647 [.ref x, .int 0 tw, v, pv, oa] news fun r₁ l => r₁ = .none ∧ ∃ es' n', TD f es' e q d ∧ l = g (dictOf es' n') := by
  unfold Ct
  intros
  rename_i hret
  k_dflt (refine' code_def (binds := [(Str.ofString "thing", .ref x), (Str.ofString "what", .int 0 tw), (Str.ofString "given", v), (Str.ofString "path", pv), (Str.ofString "other", oa)]) ?k1 ?k2 ?k3 ?k4 ?k5 ?kA ?kF ?kK ?k6 ?k7 ?k8 ?k9 ?kB ?_ ?c2 ?c3 ?c4 ?c5; (case kA => exact rfl); (case kF => exact rfl); (case kK => assumption); (case k1 => k_asm); (case k2 => k_asm); (case k3 => k_asm); (case k4 => k_asm); (case k5 => k_asm); (case k6 => k_is); (case k7 => k_is); (case k8 => ktr_room); (case k9 => walk_at "mBind"); (case c5 => decide); (case kB => exact locs rfl); (case c2 => exact rfl); (case c3 => exact rfl); (case c4 => exact rfl); k_whole; intro g' L' h' FG' F' N' B' X' T'; (try dsimp only); (try simp only [List.reverse_cons, List.reverse_nil, List.nil_append, List.cons_append] at F'); (try k_fold))
  k_steps
  exact hret _ _ _ _ ⟨rfl, _, _, by assumption, rfl⟩ (by assumption) (by assumption)

theorem act1 (hx : (x, instObj 522 dx) ∈ news) (hd : (dx, dictOf es n) ∈ news) (T : TD f es e u d) (U : UpdF dx (dictOf es n) news g) (hp : Pair v q) (hn : v ≠ .none) : Ct w 5 647 [.ref x, .int 1 tw, v, pv, oa] news fun r₁ l => r₁ = .none ∧ ∃ es' n', TD f es' e q d ∧ l = g (dictOf es' n') := by
  unfold Ct
  intros
  rename_i hret
  k_dflt (refine' code_def (binds := [(Str.ofString "thing", .ref x), (Str.ofString "what", .int 1 tw), (Str.ofString "given", v), (Str.ofString "path", pv), (Str.ofString "other", oa)]) ?k1 ?k2 ?k3 ?k4 ?k5 ?kA ?kF ?kK ?k6 ?k7 ?k8 ?k9 ?kB ?_ ?c2 ?c3 ?c4 ?c5; (case kA => exact rfl); (case kF => exact rfl); (case kK => assumption); (case k1 => k_asm); (case k2 => k_asm); (case k3 => k_asm); (case k4 => k_asm); (case k5 => k_asm); (case k6 => k_is); (case k7 => k_is); (case k8 => ktr_room); (case k9 => walk_at "mBind"); (case c5 => decide); (case kB => exact locs rfl); (case c2 => exact rfl); (case c3 => exact rfl); (case c4 => exact rfl); k_whole; intro g' L' h' FG' F' N' B' X' T'; (try dsimp only); (try simp only [List.reverse_cons, List.reverse_nil, List.nil_append, List.cons_append] at F'); (try k_fold))
  k_steps
  exact hret _ _ _ _ ⟨rfl, _, _, by assumption, rfl⟩ (by assumption) (by assumption)

theorem act2 (hx : (x, instObj 522 dx) ∈ news) (hd : (dx, dictOf es n) ∈ news) (T : TD f es e u d) (U : UpdF dx (dictOf es n) news g) (hp : Pair v q) (hn : v ≠ .none) : Ct w 5 647 [.ref x, .int 2 tw, v, pv, oa] news fun r₁ l => r₁ = .none ∧ ∃ es' n', TD f es' e u q ∧ l = g (dictOf es' n') := by
  unfold Ct
  intros
  rename_i hret
  k_dflt (refine' code_def (binds := [(Str.ofString "thing", .ref x), (Str.ofString "what", .int 2 tw), (Str.ofString "given", v), (Str.ofString "path", pv), (Str.ofString "other", oa)]) ?k1 ?k2 ?k3 ?k4 ?k5 ?kA ?kF ?kK ?k6 ?k7 ?k8 ?k9 ?kB ?_ ?c2 ?c3 ?c4 ?c5; (case kA => exact rfl); (case kF => exact rfl); (case kK => assumption); (case k1 => k_asm); (case k2 => k_asm); (case k3 => k_asm); (case k4 => k_asm); (case k5 => k_asm); (case k6 => k_is); (case k7 => k_is); (case k8 => ktr_room); (case k9 => walk_at "mBind"); (case c5 => decide); (case kB => exact locs rfl); (case c2 => exact rfl); (case c3 => exact rfl); (case c4 => exact rfl); k_whole; intro g' L' h' FG' F' N' B' X' T'; (try dsimp only); (try simp only [List.reverse_cons, List.reverse_nil, List.nil_append, List.cons_append] at F'); (try k_fold))
  k_steps
  exact hret _ _ _ _ ⟨rfl, _, _, by assumption, rfl⟩ (by assumption) (by assumption)

theorem act2n (hx : (x, instObj 522 dx) ∈ news) (hd : (dx, dictOf es n) ∈ news) (T : TD f es e u d) : Ct w 5 647 [.ref x, .int 2 tw, .none, pv, oa] news fun r₁ l => r₁ = .none ∧ l = news := by
  unfold Ct
  intros
  rename_i hret
  k_dflt (refine' code_def (binds := [(Str.ofString "thing", .ref x), (Str.ofString "what", .int 2 tw), (Str.ofString "given", .none), (Str.ofString "path", pv), (Str.ofString "other", oa)]) ?k1 ?k2 ?k3 ?k4 ?k5 ?kA ?kF ?kK ?k6 ?k7 ?k8 ?k9 ?kB ?_ ?c2 ?c3 ?c4 ?c5; (case kA => exact rfl); (case kF => exact rfl); (case kK => assumption); (case k1 => k_asm); (case k2 => k_asm); (case k3 => k_asm); (case k4 => k_asm); (case k5 => k_asm); (case k6 => k_is); (case k7 => k_is); (case k8 => ktr_room); (case k9 => walk_at "mBind"); (case c5 => decide); (case kB => exact locs rfl); (case c2 => exact rfl); (case c3 => exact rfl); (case c4 => exact rfl); k_whole; intro g' L' h' FG' F' N' B' X' T'; (try dsimp only); (try simp only [List.reverse_cons, List.reverse_nil, List.nil_append, List.cons_append] at F'); (try k_fold))
  k_steps
  exact hret _ _ _ _ ⟨rfl, rfl⟩ (by assumption) (by assumption)

theorem act3 (hx : (x, instObj 522 dx) ∈ news) (hd : (dx, dictOf es n) ∈ news) (T : TD f es e u d) (U : UpdF dx (dictOf es n) news g) (hp : Pair v q) (hn : v ≠ .none) : Ct w 5 647 [.ref x, .int 3 tw, v, pv, oa] news fun r₁ l => r₁ = .none ∧ ∃ es' n', TD f es' e u q ∧ l = g (dictOf es' n') := by
  unfold Ct
  intros
  rename_i hret
  k_dflt (refine' code_def (binds := [(Str.ofString "thing", .ref x), (Str.ofString "what", .int 3 tw), (Str.ofString "given", v), (Str.ofString "path", pv), (Str.ofString "other", oa)]) ?k1 ?k2 ?k3 ?k4 ?k5 ?kA ?kF ?kK ?k6 ?k7 ?k8 ?k9 ?kB ?_ ?c2 ?c3 ?c4 ?c5; (case kA => exact rfl); (case kF => exact rfl); (case kK => assumption); (case k1 => k_asm); (case k2 => k_asm); (case k3 => k_asm); (case k4 => k_asm); (case k5 => k_asm); (case k6 => k_is); (case k7 => k_is); (case k8 => ktr_room); (case k9 => walk_at "mBind"); (case c5 => decide); (case kB => exact locs rfl); (case c2 => exact rfl); (case c3 => exact rfl); (case c4 => exact rfl); k_whole; intro g' L' h' FG' F' N' B' X' T'; (try dsimp only); (try simp only [List.reverse_cons, List.reverse_nil, List.nil_append, List.cons_append] at F'); (try k_fold))
  k_steps
  exact hret _ _ _ _ ⟨rfl, _, _, by assumption, rfl⟩ (by assumption) (by assumption)

theorem act3n (hx : (x, instObj 522 dx) ∈ news) (hd : (dx, dictOf es n) ∈ news) (T : TD f es e u d) : Ct w 5 647 [.ref x, .int 3 tw, .none, pv, oa] news fun r₁ l => r₁ = .none ∧ l = news := by
  unfold Ct
  intros
  rename_i hret
  k_dflt (refine' code_def (binds := [(Str.ofString "thing", .ref x), (Str.ofString "what", .int 3 tw), (Str.ofString "given", .none), (Str.ofString "path", pv), (Str.ofString "other", oa)]) ?k1 ?k2 ?k3 ?k4 ?k5 ?kA ?kF ?kK ?k6 ?k7 ?k8 ?k9 ?kB ?_ ?c2 ?c3 ?c4 ?c5; (case kA => exact rfl); (case kF => exact rfl); (case kK => assumption); (case k1 => k_asm); (case k2 => k_asm); (case k3 => k_asm); (case k4 => k_asm); (case k5 => k_asm); (case k6 => k_is); (case k7 => k_is); (case k8 => ktr_room); (case k9 => walk_at "mBind"); (case c5 => decide); (case kB => exact locs rfl); (case c2 => exact rfl); (case c3 => exact rfl); (case c4 => exact rfl); k_whole; intro g' L' h' FG' F' N' B' X' T'; (try dsimp only); (try simp only [List.reverse_cons, List.reverse_nil, List.nil_append, List.cons_append] at F'); (try k_fold))
  k_steps
  exact hret _ _ _ _ ⟨rfl, rfl⟩ (by assumption) (by assumption)

theorem act4 (hx : (x, instObj 522 dx) ∈ news) (hd : (dx, dictOf es n) ∈ news) (T : TD f es e u d) (U : UpdF dx (dictOf es n) news g) (hp : Pair v q) (hn : v ≠ .none) (hq : q.length ≤ 8) (hdl : d.length ≤ 1000) : Ct w 5 647 [.ref x, .int 4 tw, v, pv, oa] news fun r₁ l => r₁ = .none ∧ ∃ es' n', TD f es' e u (noted d q) ∧ l = g (dictOf es' n') := by
  unfold Ct
  intros
  rename_i hret
  k_dflt (refine' code_def (binds := [(Str.ofString "thing", .ref x), (Str.ofString "what", .int 4 tw), (Str.ofString "given", v), (Str.ofString "path", pv), (Str.ofString "other", oa)]) ?k1 ?k2 ?k3 ?k4 ?k5 ?kA ?kF ?kK ?k6 ?k7 ?k8 ?k9 ?kB ?_ ?c2 ?c3 ?c4 ?c5; (case kA => exact rfl); (case kF => exact rfl); (case kK => assumption); (case k1 => k_asm); (case k2 => k_asm); (case k3 => k_asm); (case k4 => k_asm); (case k5 => k_asm); (case k6 => k_is); (case k7 => k_is); (case k8 => ktr_room); (case k9 => walk_at "mBind"); (case c5 => decide); (case kB => exact locs rfl); (case c2 => exact rfl); (case c3 => exact rfl); (case c4 => exact rfl); k_whole; intro g' L' h' FG' F' N' B' X' T'; (try dsimp only); (try simp only [List.reverse_cons, List.reverse_nil, List.nil_append, List.cons_append] at F'); (try k_fold))
  k_steps
  exact hret _ _ _ _ ⟨rfl, _, _, by assumption, rfl⟩ (by assumption) (by assumption)

theorem act4n (hx : (x, instObj 522 dx) ∈ news) (hd : (dx, dictOf es n) ∈ news) (T : TD f es e u d) : Ct w 5 647 [.ref x, .int 4 tw, .none, pv, oa] news fun r₁ l => r₁ = .none ∧ l = news := by
  unfold Ct
  intros
  rename_i hret
  k_dflt (refine' code_def (binds := [(Str.ofString "thing", .ref x), (Str.ofString "what", .int 4 tw), (Str.ofString "given", .none), (Str.ofString "path", pv), (Str.ofString "other", oa)]) ?k1 ?k2 ?k3 ?k4 ?k5 ?kA ?kF ?kK ?k6 ?k7 ?k8 ?k9 ?kB ?_ ?c2 ?c3 ?c4 ?c5; (case kA => exact rfl); (case kF => exact rfl); (case kK => assumption); (case k1 => k_asm); (case k2 => k_asm); (case k3 => k_asm); (case k4 => k_asm); (case k5 => k_asm); (case k6 => k_is); (case k7 => k_is); (case k8 => ktr_room); (case k9 => walk_at "mBind"); (case c5 => decide); (case kB => exact locs rfl); (case c2 => exact rfl); (case c3 => exact rfl); (case c4 => exact rfl); k_whole; intro g' L' h' FG' F' N' B' X' T'; (try dsimp only); (try simp only [List.reverse_cons, List.reverse_nil, List.nil_append, List.cons_append] at F'); (try k_fold))
  k_steps
  exact hret _ _ _ _ ⟨rfl, rfl⟩ (by assumption) (by assumption)

theorem act5 (hx : (x, instObj 522 dx) ∈ news) (hd : (dx, dictOf es n) ∈ news) (T : TD f es e u d) (U : UpdF dx (dictOf es n) news g) (hp : Pair v q) (hpr : Pair pv r) (hq : q.length ≤ 8) (hr : r.length ≤ 8) : Ct w 5 647 [.ref x, .int 5 tw, v, pv, oa] news fun r₁ l => r₁ = .none ∧ ∃ es' n', TD f es' e (r ++ Str.ofString " " ++ q) d ∧ l = g (dictOf es' n') := by
  unfold Ct
  intros
  rename_i hret
  k_dflt (refine' code_def (binds := [(Str.ofString "thing", .ref x), (Str.ofString "what", .int 5 tw), (Str.ofString "given", v), (Str.ofString "path", pv), (Str.ofString "other", oa)]) ?k1 ?k2 ?k3 ?k4 ?k5 ?kA ?kF ?kK ?k6 ?k7 ?k8 ?k9 ?kB ?_ ?c2 ?c3 ?c4 ?c5; (case kA => exact rfl); (case kF => exact rfl); (case kK => assumption); (case k1 => k_asm); (case k2 => k_asm); (case k3 => k_asm); (case k4 => k_asm); (case k5 => k_asm); (case k6 => k_is); (case k7 => k_is); (case k8 => ktr_room); (case k9 => walk_at "mBind"); (case c5 => decide); (case kB => exact locs rfl); (case c2 => exact rfl); (case c3 => exact rfl); (case c4 => exact rfl); k_whole; intro g' L' h' FG' F' N' B' X' T'; (try dsimp only); (try simp only [List.reverse_cons, List.reverse_nil, List.nil_append, List.cons_append] at F'); (try k_fold))
  k_steps
  exact hret _ _ _ _ ⟨rfl, _, _, by assumption, rfl⟩ (by assumption) (by assumption)

theorem act6 (hx : (x, instObj 522 dx) ∈ news) (hd : (dx, dictOf es n) ∈ news) (T : TD f es e u d) (U : UpdF dx (dictOf es n) news g) (hp : Pair v q) (hq : q.length ≤ 8) : Ct w 5 647 [.ref x, .int 6 tw, v, pv, oa] news fun r₁ l => r₁ = .none ∧ ∃ es' n', TD f es' e (Str.ofString "/ " ++ q) d ∧ l = g (dictOf es' n') := by
  unfold Ct
  intros
  rename_i hret
  k_dflt (refine' code_def (binds := [(Str.ofString "thing", .ref x), (Str.ofString "what", .int 6 tw), (Str.ofString "given", v), (Str.ofString "path", pv), (Str.ofString "other", oa)]) ?k1 ?k2 ?k3 ?k4 ?k5 ?kA ?kF ?kK ?k6 ?k7 ?k8 ?k9 ?kB ?_ ?c2 ?c3 ?c4 ?c5; (case kA => exact rfl); (case kF => exact rfl); (case kK => assumption); (case k1 => k_asm); (case k2 => k_asm); (case k3 => k_asm); (case k4 => k_asm); (case k5 => k_asm); (case k6 => k_is); (case k7 => k_is); (case k8 => ktr_room); (case k9 => walk_at "mBind"); (case c5 => decide); (case kB => exact locs rfl); (case c2 => exact rfl); (case c3 => exact rfl); (case c4 => exact rfl); k_whole; intro g' L' h' FG' F' N' B' X' T'; (try dsimp only); (try simp only [List.reverse_cons, List.reverse_nil, List.nil_append, List.cons_append] at F'); (try k_fold))
  k_steps
  exact hret _ _ _ _ ⟨rfl, _, _, by assumption, rfl⟩ (by assumption) (by assumption)

theorem act7 (hx : (x, instObj 522 dx) ∈ news) (hd : (dx, dictOf es n) ∈ news) (T : TD f es (.ref ea) u d) (hea : handedIn (.ref ea) = true) (hm : (ea, eo) ∈ news) (hke : eo.IsDictOf (strKind PR w) kvs) (Ue : UpdF ea eo news ge) (hz : kvs.length ≤ 100) : Ct w 5 647 [.ref x, .int 7 tw, v, pv, oa] news fun r₁ l => r₁ = .none ∧ ∃ eo', eo'.IsDictOf (strKind PR w) (stored kvs (Str.ofString "k") v) ∧ l = ge eo' := by
  unfold Ct
  intros
  rename_i hret
  k_dflt (refine' code_def (binds := [(Str.ofString "thing", .ref x), (Str.ofString "what", .int 7 tw), (Str.ofString "given", v), (Str.ofString "path", pv), (Str.ofString "other", oa)]) ?k1 ?k2 ?k3 ?k4 ?k5 ?kA ?kF ?kK ?k6 ?k7 ?k8 ?k9 ?kB ?_ ?c2 ?c3 ?c4 ?c5; (case kA => exact rfl); (case kF => exact rfl); (case kK => assumption); (case k1 => k_asm); (case k2 => k_asm); (case k3 => k_asm); (case k4 => k_asm); (case k5 => k_asm); (case k6 => k_is); (case k7 => k_is); (case k8 => ktr_room); (case k9 => walk_at "mBind"); (case c5 => decide); (case kB => exact locs rfl); (case c2 => exact rfl); (case c3 => exact rfl); (case c4 => exact rfl); k_whole; intro g' L' h' FG' F' N' B' X' T'; (try dsimp only); (try simp only [List.reverse_cons, List.reverse_nil, List.nil_append, List.cons_append] at F'); (try k_fold))
  k_steps
  exact hret _ _ _ _ ⟨rfl, _, by assumption, rfl⟩ (by assumption) (by assumption)

theorem act8 (hx : (x, instObj 522 dx) ∈ news) (hd : (dx, dictOf es n) ∈ news) (T : TD f es e u d) (U : UpdF dx (dictOf es n) news g) : Ct w 5 647 [.ref x, .int 8 tw, v, pv, oa] news fun r₁ l => r₁ = .none ∧ ∃ es' n', TD f es' oa u d ∧ l = g (dictOf es' n') := by
  unfold Ct
  intros
  rename_i hret
  k_dflt (refine' code_def (binds := [(Str.ofString "thing", .ref x), (Str.ofString "what", .int 8 tw), (Str.ofString "given", v), (Str.ofString "path", pv), (Str.ofString "other", oa)]) ?k1 ?k2 ?k3 ?k4 ?k5 ?kA ?kF ?kK ?k6 ?k7 ?k8 ?k9 ?kB ?_ ?c2 ?c3 ?c4 ?c5; (case kA => exact rfl); (case kF => exact rfl); (case kK => assumption); (case k1 => k_asm); (case k2 => k_asm); (case k3 => k_asm); (case k4 => k_asm); (case k5 => k_asm); (case k6 => k_is); (case k7 => k_is); (case k8 => ktr_room); (case k9 => walk_at "mBind"); (case c5 => decide); (case kB => exact locs rfl); (case c2 => exact rfl); (case c3 => exact rfl); (case c4 => exact rfl); k_whole; intro g' L' h' FG' F' N' B' X' T'; (try dsimp only); (try simp only [List.reverse_cons, List.reverse_nil, List.nil_append, List.cons_append] at F'); (try k_fold))
  k_steps
  exact hret _ _ _ _ ⟨rfl, _, _, by assumption, rfl⟩ (by assumption) (by assumption)

end

end Mine
/- part C9 -/
set_option Elab.async false
set_option maxRecDepth 100000
set_option maxHeartbeats 8000000
namespace Mine
theorem fill_aC9 : PySem.Challenge.rw_ft5041_01 = PySem.Challenge.rw_ft5041_01 ∧ Mine.hd.heap_39 = Mine.hd.heap_39 := by
  k_fill
  exact ⟨rfl, rfl⟩
section
variable {w : World} {x dx : Addr} {news : List (Addr × Obj)} {f : Str → Option (Option Value)} {es : List DictEntry} {n : Nat} {e : Value} {u d q r : Str} {v pv oa : Value} {tw : Tok} {W : Int} {P : List (Addr × Obj) → Prop} {g : Obj → List (Addr × Obj)}
  {p : Program} {loose : List Str} {mean : ExcName → Option Value} {mg mb : Str → Option Value} {dp un : Nat} {gd : Option (List Code)} {cn : Str} {cs : Scope} {a : Addr} {ccd : Value} {cl : List (Str × Addr)} {outer : List Env}
    {A₀ : Around} {base h₀ : Heap} {L : Addr} {m : Str → Option Value} {s : Shared} {E : Value → Shared → Prop} {expr : Bool}
theorem s_act (C : Ct w 5 647 [.ref x, .int W tw, v, pv, oa] news fun r₁ l => r₁ = .none ∧ P l) (B : Below A₀ base outer h₀) (F : Fr h₀ L s.heap m) (X : (Mine.hd.heap_39 w.params).In h₀) (N : News h₀ L s.heap news) (T' : Top p loose mean mg mb h₀) (hk : cs.kind = .function) (hd' : dp + 2 * 5 < recursionLimit) (hu : un + 0 + 10 * 5 < cLine) {Q : Value → Shared → Prop} (h : ∀ (l : List (Addr × Obj)) (h' : Heap) (tk' : Nat), P l → Fr h₀ L h' m → News h₀ L h' l → Q .none { s with heap := h', toks := tk' }) :
    wpAny (model PR w) (ktrTop dp un gd cn cs L a ccd cl outer) (call (.ref 647) [.ref x, .int W tw, v, pv, oa]) Q E s :=
  C.call B F X N T' hk hd' hu fun _ l h' tk' rr F' N' => by
    obtain ⟨rfl, hp⟩ := rr
    exact h l h' tk' hp F' N'
end
theorem fill_C9 : PySem.Challenge.rw_ft5041_01 = PySem.Challenge.rw_ft5041_01 ∧ Mine.hd.heap_39 = Mine.hd.heap_39 := by
  k_fill
  exact ⟨rfl, rfl⟩
local macro_rules | `(tactic| k_mem) => `(tactic| with_reducible assumption)
local macro_rules | `(tactic| k_updF) => `(tactic| with_reducible assumption)
local macro_rules | `(tactic| walk_at "mA") => `(tactic| with_reducible assumption)
local macro_rules | `(tactic| walk_at "mK") => `(tactic| first | with_reducible assumption | rfl)
local macro_rules | `(tactic| walk_at "getAttr ref") => `(tactic| (k_here; (with_reducible show wpAny _ _ (getAttr (Value.ref _) (PySem.Str.ofString "extension") _) _ _ _); refine t_ext (by walk_at "mA") (by walk_at "mA") (by walk_at "mA") (by walk_at "mA") (by walk_at "mA") (by walk_at "mA") (by walk_at "mA") ?_))
local macro_rules | `(tactic| walk_at "getAttr ref") => `(tactic| (k_here; (with_reducible show wpAny _ _ (getAttr (Value.ref _) (PySem.Str.ofString "user") _) _ _ _); k_dflt (refine s_user (by walk_at "mA") (by walk_at "mA") (by walk_at "mA") (by walk_at "mA") (by walk_at "mA") (by walk_at "mA") (by walk_at "mA") (by walk_at "mA") (by walk_at "mK") (by ktr_room) (by ktr_units) ?_); intro t9 h9 tk9 F9 N9))
local macro_rules | `(tactic| walk_at "getAttr ref") => `(tactic| (k_here; (with_reducible show wpAny _ _ (getAttr (Value.ref _) (PySem.Str.ofString "description") _) _ _ _); k_dflt (refine s_desc (by walk_at "mA") (by walk_at "mA") (by walk_at "mA") (by walk_at "mA") (by walk_at "mA") (by walk_at "mA") (by walk_at "mA") (by walk_at "mA") (by walk_at "mK") (by ktr_room) (by ktr_units) ?_); intro t9 h9 tk9 F9 N9))
local macro_rules | `(tactic| walk_at "setAttr ref") => `(tactic| (k_here; (with_reducible show wpAny _ _ (setAttr (Value.ref _) (PySem.Str.ofString "_user") _) _ _ _); refine t_setUser (by walk_at "mA") (by walk_at "mA") (by walk_at "mA") (by walk_at "mA") (by walk_at "mA") (by walk_at "mA") (by walk_at "mA") ?_; intro h9 es9 n9 T9 F9 N9))
local macro_rules | `(tactic| walk_at "setAttr ref") => `(tactic| (k_here; (with_reducible show wpAny _ _ (setAttr (Value.ref _) (PySem.Str.ofString "_description") _) _ _ _); refine t_setDesc (by walk_at "mA") (by walk_at "mA") (by walk_at "mA") (by walk_at "mA") (by walk_at "mA") (by walk_at "mA") (by walk_at "mA") ?_; intro h9 es9 n9 T9 F9 N9))
local macro_rules | `(tactic| walk_at "call ref") => `(tactic| (k_here; (with_reducible show wpAny _ _ (PySem.call (Value.ref 632) _ _) _ _ _); k_dflt (refine s_tow (by walk_at "mP") (by walk_at "mA") (by walk_at "mA") (by walk_at "mA") (by walk_at "mA") (by walk_at "mA") (by walk_at "mK") (by ktr_room) (by ktr_units) ?_); intro t9 h9 tk9 F9 N9))
local macro_rules | `(tactic| walk_at "compareOp Is") => `(tactic| (k_here; (with_reducible show wpAny _ _ (compareOp CmpOp.Is _ Value.none) _ _ _); first | refine is_none_pair (by walk_at "mA") (by walk_at "mA") ?_ | refine is_any_pair (by walk_at "mA") ?_))
local macro_rules | `(tactic| walk_at "compareOp IsNot") => `(tactic| (k_here; (with_reducible show wpAny _ _ (compareOp CmpOp.IsNot _ Value.none) _ _ _); refine isnot_none_pair (by walk_at "mA") (by walk_at "mA") ?_))
local macro_rules | `(tactic| walk_at "mBind") => `(tactic| first | exact BindsTo.of_eq rfl | exact binds_K (by k_in) rfl (by k_is) rfl rfl rfl)
local macro_rules | `(tactic| walk_at "mP") => `(tactic| first | with_reducible assumption | exact Pair.str _ _)
local macro_rules | `(tactic| walk_at "mNN") => `(tactic| first | with_reducible assumption | (intro e9; cases e9))
local macro_rules | `(tactic| walk_at "setAttr ref") => `(tactic| (k_here; (with_reducible show wpAny _ _ (setAttr (Value.ref _) (PySem.Str.ofString "user") _) _ _ _); k_dflt (refine s_setUserP (by walk_at "mP") (by walk_at "mNN") (by walk_at "mA") (by walk_at "mA") (by walk_at "mA") (by walk_at "mA") (by walk_at "mA") (by walk_at "mA") (by walk_at "mA") (by walk_at "mA") (by walk_at "mA") (by walk_at "mK") (by ktr_room) (by ktr_units) ?_); intro h9 tk9 es9 n9 T9 F9 N9))
local macro_rules | `(tactic| walk_at "setAttr ref") => `(tactic| (k_here; (with_reducible show wpAny _ _ (setAttr (Value.ref _) (PySem.Str.ofString "description") _) _ _ _); k_dflt (refine s_setDescP (by walk_at "mP") (by walk_at "mNN") (by walk_at "mA") (by walk_at "mA") (by walk_at "mA") (by walk_at "mA") (by walk_at "mA") (by walk_at "mA") (by walk_at "mA") (by walk_at "mA") (by walk_at "mA") (by walk_at "mK") (by ktr_room) (by ktr_units) ?_); intro h9 tk9 es9 n9 T9 F9 N9))
local macro_rules | `(tactic| walk_at "setAttr ref") => `(tactic| (k_here; (with_reducible show wpAny _ _ (setAttr (Value.ref _) (PySem.Str.ofString "description") Value.none) _ _ _); k_dflt (refine s_setDescNone (by walk_at "mA") (by walk_at "mA") (by walk_at "mA") (by walk_at "mA") (by walk_at "mA") (by walk_at "mA") (by walk_at "mA") (by walk_at "mA") (by walk_at "mK") (by ktr_room) (by ktr_units) ?_); intro h9 tk9 F9 N9))
local macro_rules | `(tactic| walk_at "mSz") => `(tactic| first | with_reducible assumption | (rw [sizeLine_eq]; omega) | omega | ((try simp only [Str.length_append]); (try rw [sizeLine_eq]); omega))
local macro_rules | `(tactic| walk_at "call builtin:str.strip") => `(tactic| (k_here; (refine SCL.strip (hsz := by walk_at "mSz") ?_); intro t9 k9 hl9))
local macro_rules | `(tactic| walk_at "binaryOp Add str str") => `(tactic| (k_here; (refine KOpn.add (by walk_at "mSz") ?_); intro t9 k9 hl9))
local macro_rules | `(tactic| walk_at "getMethod ref") => `(tactic| (k_here; k_dflt (refine t_meth (by walk_at "mA") (by walk_at "mA") (by walk_at "mA") (by walk_at "mA") (by walk_at "mA") (by walk_at "mA") (by decide +kernel) (by k_is) (by k_is) (by k_is) ?_)))
local macro_rules | `(tactic| walk_at "mR") => `(tactic| exact rfl)
local macro_rules | `(tactic| walk_at "execs cons If") => `(tactic| (k_here; (with_reducible show wpAny _ _ (execs (Stmt.If (Expr.Compare (Expr.Name (PySem.Str.ofString "what") _) [CmpOp.Eq] [Expr.Constant (Const.int _) _ _] _) _ [] _ :: _) _) _ _ _); k_dflt (refine skipA (by walk_at "mA") (by walk_at "mR") (by decide) (by walk_at "mR") (by walk_at "mR") (by decide) ?_); intro tk9))
local macro_rules | `(tactic| walk_at "execs cons If") => `(tactic| (k_here; (with_reducible show wpAny _ _ (execs (Stmt.If (Expr.BoolOp BoolOp.Or [Expr.Compare (Expr.Name (PySem.Str.ofString "what") _) [CmpOp.Eq] [Expr.Constant (Const.int _) _ _] _, _] _) _ [] _ :: _) _) _ _ _); k_dflt (refine skipB (by walk_at "mA") (by walk_at "mR") (by decide) (by decide) (by walk_at "mR") (by walk_at "mR") (by decide) ?_); intro tk9))
local macro_rules | `(tactic| walk_at "execs cons If") => `(tactic| (k_here; (with_reducible show wpAny _ _ (execs (Stmt.If (Expr.BoolOp BoolOp.And [Expr.BoolOp BoolOp.Or [Expr.Compare (Expr.Name (PySem.Str.ofString "what") _) [CmpOp.Eq] [Expr.Constant (Const.int _) _ _] _, _] _, _] _) _ [] _ :: _) _) _ _ _); k_dflt (refine skipC (by walk_at "mA") (by walk_at "mR") (by decide) (by decide) (by walk_at "mR") (by walk_at "mR") (by decide) ?_); intro tk9))
local macro_rules | `(tactic| walk_at "execs cons If") => `(tactic| (k_here; (with_reducible show wpAny _ _ (execs (Stmt.If (Expr.BoolOp BoolOp.And [Expr.Compare (Expr.Name (PySem.Str.ofString "what") _) [CmpOp.Eq] [Expr.Constant (Const.int _) _ _] _, _] _) _ [] _ :: _) _) _ _ _); k_dflt (refine skipD (by walk_at "mA") (by walk_at "mR") (by decide) (by walk_at "mR") (by walk_at "mR") (by decide) ?_); intro tk9))
local macro_rules | `(tactic| walk_at "call ref") => `(tactic| (k_here; (with_reducible show wpAny _ _ (PySem.call (Value.ref 647) _ _) _ _ _); k_dflt (refine s_act (by walk_at "mA") (by walk_at "mA") (by walk_at "mA") (by walk_at "mA") (by walk_at "mA") (by walk_at "mA") (by walk_at "mK") (by ktr_room) (by ktr_units) ?_); intro l9 h9 tk9 p9 F9 N9))
section
variable {w : World} {x : Addr} {news : List (Addr × Obj)} {v pv oa : Value} {W : Int} {tw : Tok} {P : List (Addr × Obj) → Prop}
theorem told_ok (C : Ct w 5 647 [.ref x, .int W tw, v, pv, oa] news fun r₁ l => r₁ = .none ∧ P l) : Ct w 7 654 [.ref x, .int W tw, v, pv, oa] news fun r₁ l => ∃ rl t l', r₁ = .ref rl ∧ P l' ∧ l = (rl, okL t) :: l' := by
  unfold Ct
  intros
  rename_i hret
  k_dflt (refine' code_def (binds := [(Str.ofString "thing", .ref x), (Str.ofString "what", .int W tw), (Str.ofString "given", v), (Str.ofString "path", pv), (Str.ofString "other", oa)]) ?k1 ?k2 ?k3 ?k4 ?k5 ?kA ?kF ?kK ?k6 ?k7 ?k8 ?k9 ?kB ?_ ?c2 ?c3 ?c4 ?c5; (case kA => exact rfl); (case kF => exact rfl); (case kK => assumption); (case k1 => k_asm); (case k2 => k_asm); (case k3 => k_asm); (case k4 => k_asm); (case k5 => k_asm); (case k6 => k_is); (case k7 => k_is); (case k8 => ktr_room); (case k9 => walk_at "mBind"); (case c5 => decide); (case kB => exact locs rfl); (case c2 => exact rfl); (case c3 => exact rfl); (case c4 => exact rfl); k_whole; intro g' L' h' FG' F' N' B' X' T'; (try dsimp only); (try simp only [List.reverse_cons, List.reverse_nil, List.nil_append, List.cons_append] at F'); (try k_fold))
  k_steps
  exact hret _ _ _ _ ⟨_, _, _, rfl, by assumption, rfl⟩ (by assumption) (by assumption)
end

end Mine
/- part C9e -/
set_option Elab.async false
set_option maxRecDepth 100000
set_option maxHeartbeats 8000000
namespace Mine
theorem fill_aC9e : PySem.Challenge.rw_ft5041_01 = PySem.Challenge.rw_ft5041_01 ∧ Mine.hd.heap_39 = Mine.hd.heap_39 := by
  k_fill
  exact ⟨rfl, rfl⟩
theorem fill_C9e : PySem.Challenge.rw_ft5041_01 = PySem.Challenge.rw_ft5041_01 ∧ Mine.hd.heap_39 = Mine.hd.heap_39 := by
  k_fill
  exact ⟨rfl, rfl⟩
local macro_rules | `(tactic| k_mem) => `(tactic| with_reducible assumption)
local macro_rules | `(tactic| k_updF) => `(tactic| with_reducible assumption)
local macro_rules | `(tactic| walk_at "mA") => `(tactic| with_reducible assumption)
local macro_rules | `(tactic| walk_at "mK") => `(tactic| first | with_reducible assumption | rfl)
local macro_rules | `(tactic| walk_at "getAttr ref") => `(tactic| (k_here; (with_reducible show wpAny _ _ (getAttr (Value.ref _) (PySem.Str.ofString "extension") _) _ _ _); refine t_ext (by walk_at "mA") (by walk_at "mA") (by walk_at "mA") (by walk_at "mA") (by walk_at "mA") (by walk_at "mA") (by walk_at "mA") ?_))
local macro_rules | `(tactic| walk_at "getAttr ref") => `(tactic| (k_here; (with_reducible show wpAny _ _ (getAttr (Value.ref _) (PySem.Str.ofString "user") _) _ _ _); k_dflt (refine s_user (by walk_at "mA") (by walk_at "mA") (by walk_at "mA") (by walk_at "mA") (by walk_at "mA") (by walk_at "mA") (by walk_at "mA") (by walk_at "mA") (by walk_at "mK") (by ktr_room) (by ktr_units) ?_); intro t9 h9 tk9 F9 N9))
local macro_rules | `(tactic| walk_at "getAttr ref") => `(tactic| (k_here; (with_reducible show wpAny _ _ (getAttr (Value.ref _) (PySem.Str.ofString "description") _) _ _ _); k_dflt (refine s_desc (by walk_at "mA") (by walk_at "mA") (by walk_at "mA") (by walk_at "mA") (by walk_at "mA") (by walk_at "mA") (by walk_at "mA") (by walk_at "mA") (by walk_at "mK") (by ktr_room) (by ktr_units) ?_); intro t9 h9 tk9 F9 N9))
local macro_rules | `(tactic| walk_at "setAttr ref") => `(tactic| (k_here; (with_reducible show wpAny _ _ (setAttr (Value.ref _) (PySem.Str.ofString "_user") _) _ _ _); refine t_setUser (by walk_at "mA") (by walk_at "mA") (by walk_at "mA") (by walk_at "mA") (by walk_at "mA") (by walk_at "mA") (by walk_at "mA") ?_; intro h9 es9 n9 T9 F9 N9))
local macro_rules | `(tactic| walk_at "setAttr ref") => `(tactic| (k_here; (with_reducible show wpAny _ _ (setAttr (Value.ref _) (PySem.Str.ofString "_description") _) _ _ _); refine t_setDesc (by walk_at "mA") (by walk_at "mA") (by walk_at "mA") (by walk_at "mA") (by walk_at "mA") (by walk_at "mA") (by walk_at "mA") ?_; intro h9 es9 n9 T9 F9 N9))
local macro_rules | `(tactic| walk_at "call ref") => `(tactic| (k_here; (with_reducible show wpAny _ _ (PySem.call (Value.ref 632) _ _) _ _ _); k_dflt (refine s_tow (by walk_at "mP") (by walk_at "mA") (by walk_at "mA") (by walk_at "mA") (by walk_at "mA") (by walk_at "mA") (by walk_at "mK") (by ktr_room) (by ktr_units) ?_); intro t9 h9 tk9 F9 N9))
local macro_rules | `(tactic| walk_at "compareOp Is") => `(tactic| (k_here; (with_reducible show wpAny _ _ (compareOp CmpOp.Is _ Value.none) _ _ _); first | refine is_none_pair (by walk_at "mA") (by walk_at "mA") ?_ | refine is_any_pair (by walk_at "mA") ?_))
local macro_rules | `(tactic| walk_at "compareOp IsNot") => `(tactic| (k_here; (with_reducible show wpAny _ _ (compareOp CmpOp.IsNot _ Value.none) _ _ _); refine isnot_none_pair (by walk_at "mA") (by walk_at "mA") ?_))
local macro_rules | `(tactic| walk_at "mBind") => `(tactic| first | exact BindsTo.of_eq rfl | exact binds_K (by k_in) rfl (by k_is) rfl rfl rfl)
local macro_rules | `(tactic| walk_at "mP") => `(tactic| first | with_reducible assumption | exact Pair.str _ _)
local macro_rules | `(tactic| walk_at "mNN") => `(tactic| first | with_reducible assumption | (intro e9; cases e9))
local macro_rules | `(tactic| walk_at "setAttr ref") => `(tactic| (k_here; (with_reducible show wpAny _ _ (setAttr (Value.ref _) (PySem.Str.ofString "user") _) _ _ _); k_dflt (refine s_setUserP (by walk_at "mP") (by walk_at "mNN") (by walk_at "mA") (by walk_at "mA") (by walk_at "mA") (by walk_at "mA") (by walk_at "mA") (by walk_at "mA") (by walk_at "mA") (by walk_at "mA") (by walk_at "mA") (by walk_at "mK") (by ktr_room) (by ktr_units) ?_); intro h9 tk9 es9 n9 T9 F9 N9))
local macro_rules | `(tactic| walk_at "setAttr ref") => `(tactic| (k_here; (with_reducible show wpAny _ _ (setAttr (Value.ref _) (PySem.Str.ofString "description") _) _ _ _); k_dflt (refine s_setDescP (by walk_at "mP") (by walk_at "mNN") (by walk_at "mA") (by walk_at "mA") (by walk_at "mA") (by walk_at "mA") (by walk_at "mA") (by walk_at "mA") (by walk_at "mA") (by walk_at "mA") (by walk_at "mA") (by walk_at "mK") (by ktr_room) (by ktr_units) ?_); intro h9 tk9 es9 n9 T9 F9 N9))
local macro_rules | `(tactic| walk_at "setAttr ref") => `(tactic| (k_here; (with_reducible show wpAny _ _ (setAttr (Value.ref _) (PySem.Str.ofString "description") Value.none) _ _ _); k_dflt (refine s_setDescNone (by walk_at "mA") (by walk_at "mA") (by walk_at "mA") (by walk_at "mA") (by walk_at "mA") (by walk_at "mA") (by walk_at "mA") (by walk_at "mA") (by walk_at "mK") (by ktr_room) (by ktr_units) ?_); intro h9 tk9 F9 N9))
local macro_rules | `(tactic| walk_at "mSz") => `(tactic| first | with_reducible assumption | (rw [sizeLine_eq]; omega) | omega | ((try simp only [Str.length_append]); (try rw [sizeLine_eq]); omega))
local macro_rules | `(tactic| walk_at "call builtin:str.strip") => `(tactic| (k_here; (refine SCL.strip (hsz := by walk_at "mSz") ?_); intro t9 k9 hl9))
local macro_rules | `(tactic| walk_at "binaryOp Add str str") => `(tactic| (k_here; (refine KOpn.add (by walk_at "mSz") ?_); intro t9 k9 hl9))
local macro_rules | `(tactic| walk_at "getMethod ref") => `(tactic| (k_here; k_dflt (refine t_meth (by walk_at "mA") (by walk_at "mA") (by walk_at "mA") (by walk_at "mA") (by walk_at "mA") (by walk_at "mA") (by decide +kernel) (by k_is) (by k_is) (by k_is) ?_)))
local macro_rules | `(tactic| walk_at "mR") => `(tactic| exact rfl)
local macro_rules | `(tactic| walk_at "execs cons If") => `(tactic| (k_here; (with_reducible show wpAny _ _ (execs (Stmt.If (Expr.Compare (Expr.Name (PySem.Str.ofString "what") _) [CmpOp.Eq] [Expr.Constant (Const.int _) _ _] _) _ [] _ :: _) _) _ _ _); k_dflt (refine skipA (by walk_at "mA") (by walk_at "mR") (by decide) (by walk_at "mR") (by walk_at "mR") (by decide) ?_); intro tk9))
local macro_rules | `(tactic| walk_at "execs cons If") => `(tactic| (k_here; (with_reducible show wpAny _ _ (execs (Stmt.If (Expr.BoolOp BoolOp.Or [Expr.Compare (Expr.Name (PySem.Str.ofString "what") _) [CmpOp.Eq] [Expr.Constant (Const.int _) _ _] _, _] _) _ [] _ :: _) _) _ _ _); k_dflt (refine skipB (by walk_at "mA") (by walk_at "mR") (by decide) (by decide) (by walk_at "mR") (by walk_at "mR") (by decide) ?_); intro tk9))
local macro_rules | `(tactic| walk_at "execs cons If") => `(tactic| (k_here; (with_reducible show wpAny _ _ (execs (Stmt.If (Expr.BoolOp BoolOp.And [Expr.BoolOp BoolOp.Or [Expr.Compare (Expr.Name (PySem.Str.ofString "what") _) [CmpOp.Eq] [Expr.Constant (Const.int _) _ _] _, _] _, _] _) _ [] _ :: _) _) _ _ _); k_dflt (refine skipC (by walk_at "mA") (by walk_at "mR") (by decide) (by decide) (by walk_at "mR") (by walk_at "mR") (by decide) ?_); intro tk9))
local macro_rules | `(tactic| walk_at "execs cons If") => `(tactic| (k_here; (with_reducible show wpAny _ _ (execs (Stmt.If (Expr.BoolOp BoolOp.And [Expr.Compare (Expr.Name (PySem.Str.ofString "what") _) [CmpOp.Eq] [Expr.Constant (Const.int _) _ _] _, _] _) _ [] _ :: _) _) _ _ _); k_dflt (refine skipD (by walk_at "mA") (by walk_at "mR") (by decide) (by walk_at "mR") (by walk_at "mR") (by decide) ?_); intro tk9))
local macro_rules | `(tactic| walk_at "mIn") => `(tactic| (refine' code_def ?k1 ?k2 ?k3 ?k4 ?k5 ?kA ?kF ?kK ?k6 ?k7 ?k8 ?k9 ?kB ?_ ?c2 ?c3 ?c4 ?c5; (case kA => exact rfl); (case kF => exact rfl); (case kK => exact rfl); (case k1 => k_asm); (case k2 => k_asm); (case k3 => k_asm); (case k4 => k_asm); (case k5 => k_asm); (case k6 => k_is); (case k7 => k_is); (case k8 => ktr_room); (case k9 => walk_at "mBind"); (case c5 => decide); (case kB => exact locs rfl); (case c2 => exact rfl); (case c3 => exact rfl); (case c4 => exact rfl); k_whole; intro g' L' h' FG' F' N' B' X' T'; (try dsimp only); (try k_fold)))
local macro_rules | `(tactic| walk_at "call ref") => `(tactic| (k_here; k_dflt ((refine wpAny_call ?_); walk_at "mIn")))
local macro_rules | `(tactic| walk_at "setAttr ref") => `(tactic| (k_here; (with_reducible show wpAny _ _ (setAttr (Value.ref _) (PySem.Str.ofString "user") Value.none) _ _ _); k_dflt (refine set_prop (by walk_at "mA") (by walk_at "mA") (InstAt.of_news (by walk_at "mA") (by walk_at "mA") (by walk_at "mA")) (by k_is) (by k_is) (by k_is) (by k_is) (by k_is) ?_; walk_at "mIn")))
local macro_rules | `(tactic| walk_at "exec Raise some none") => `(tactic| (k_here; (with_reducible show wpAny _ _ (exec (Stmt.Raise (some (Expr.Call (Expr.Name ("ValueError" : Str) _) _ [] _)) none _) _) _ _ _); k_dflt (refine Raise_madeB PySem.F.excCall_ValueError PySem.F.excRaise_ValueError rfl (name_B (by walk_at "mA") (by walk_at "mA") (topRead_of (by walk_at "mA")) (by k_is) PyProof.Rows.Boot.«ValueError» (by decide) ⟨rfl, ?_⟩))))
local macro_rules | `(tactic| walk_at "And") => `(tactic| ((with_reducible show _ ≤ sizeLine ∧ _); refine ⟨by exact Nat.le_of_ble_eq_true rfl, ?_⟩; intro h9 e9 x9))
/-- as Ct, in the law's own frame -/
def Ct0 (w : World) (k : Nat) (f : Addr) (args : List Value) (news : List (Addr × Obj)) (R : Value → List (Addr × Obj) → Prop) : Prop :=
  ∀ (p : Program) (loose : List Str) (mean : ExcName → Option Value) (mg mb : Str → Option Value) (dp un : Nat) (gd : Option (List Code)) (cn : Str) (cs : Scope) (a : Addr) (ccd : Value)
    (A₀ : Around) (base h₀ : Heap) (L : Addr) (m : Str → Option Value) (s : Shared) (Q E : Value → Shared → Prop),
    Below A₀ base [] h₀ → Fr h₀ L s.heap m → (Mine.hd.heap_39 w.params).In h₀ → News h₀ L s.heap news → Top p loose mean mg mb h₀ → (Mine.hd.heap_39 w.params).In base → Top p loose mean mg mb base → cs.kind = .function →
    dp + 2 * k < recursionLimit → un + 10 * k < cLine →
    (∀ (v : Value) (news' : List (Addr × Obj)) (h' : Heap) (tk' : Nat), R v news' → Fr h₀ L h' m → News h₀ L h' news' → Q v { s with heap := h', toks := tk' }) →
      codeAny (model PR w) (ktrTop dp un gd cn cs L a ccd [] []) (.call (.ref f) ⟨args, []⟩) (fun r s' => match r with | .ok (.ret v) => Q v s' | .ok _ => False | .error e => E e s') s
theorem Ct.to0 {w : World} {k : Nat} {f : Addr} {args : List Value} {news : List (Addr × Obj)} {R : Value → List (Addr × Obj) → Prop} (C : Ct w k f args news R) : Ct0 w k f args news R :=
  fun p loose mean mg mb dp un gd cn cs a ccd A₀ base h₀ L m s Q E B F X N T _ _ hk hd hu h => C p loose mean mg mb dp un gd cn cs a ccd [] [] A₀ base h₀ L m s Q E B F X N T hk hd hu h
section
variable {w : World} {x dx : Addr} {news : List (Addr × Obj)} {f : Str → Option (Option Value)} {es : List DictEntry} {n : Nat} {e : Value} {u d : Str} {pv oa : Value} {tw : Tok}
theorem told_err0 (hx : (x, instObj 522 dx) ∈ news) (hd : (dx, dictOf es n) ∈ news) (T : TD f es e u d) : Ct0 w 9 654 [.ref x, .int 0 tw, .none, pv, oa] news fun r₁ l => ∃ rl t t', r₁ = .ref rl ∧ l = (rl, errL t t') :: news := by
  unfold Ct0
  intros
  rename_i hret
  k_dflt (refine' code_defS0 (binds := [(Str.ofString "thing", .ref x), (Str.ofString "what", .int 0 tw), (Str.ofString "given", .none), (Str.ofString "path", pv), (Str.ofString "other", oa)]) ?k1 ?k2 ?k3 ?k4 ?k5 ?kA ?k6 ?k7 ?k8 ?k9 ?kB ?_ ?cK ?c2 ?c3 ?c4 ?c5; (case kA => exact rfl); (case cK => assumption); (case k1 => k_asm); (case k2 => k_asm); (case k3 => k_asm); (case k4 => k_asm); (case k5 => k_asm); (case k6 => k_is); (case k7 => k_is); (case k8 => ktr_room); (case k9 => walk_at "mBind"); (case c5 => decide); (case kB => exact locs rfl); (case c2 => exact rfl); (case c3 => exact rfl); (case c4 => exact rfl); k_whole; intro g' L' h' FG' F' N' B' X' T' D'; (try dsimp only); (try simp only [List.reverse_cons, List.reverse_nil, List.nil_append, List.cons_append] at F'); (try k_fold))
  k_steps
  exact hret _ _ _ _ ⟨_, _, _, rfl, rfl⟩ (by assumption) (by assumption)
theorem told_err1 (hx : (x, instObj 522 dx) ∈ news) (hd : (dx, dictOf es n) ∈ news) (T : TD f es e u d) : Ct0 w 9 654 [.ref x, .int 1 tw, .none, pv, oa] news fun r₁ l => ∃ rl t t', r₁ = .ref rl ∧ l = (rl, errL t t') :: news := by
  unfold Ct0
  intros
  rename_i hret
  k_dflt (refine' code_defS0 (binds := [(Str.ofString "thing", .ref x), (Str.ofString "what", .int 1 tw), (Str.ofString "given", .none), (Str.ofString "path", pv), (Str.ofString "other", oa)]) ?k1 ?k2 ?k3 ?k4 ?k5 ?kA ?k6 ?k7 ?k8 ?k9 ?kB ?_ ?cK ?c2 ?c3 ?c4 ?c5; (case kA => exact rfl); (case cK => assumption); (case k1 => k_asm); (case k2 => k_asm); (case k3 => k_asm); (case k4 => k_asm); (case k5 => k_asm); (case k6 => k_is); (case k7 => k_is); (case k8 => ktr_room); (case k9 => walk_at "mBind"); (case c5 => decide); (case kB => exact locs rfl); (case c2 => exact rfl); (case c3 => exact rfl); (case c4 => exact rfl); k_whole; intro g' L' h' FG' F' N' B' X' T' D'; (try dsimp only); (try simp only [List.reverse_cons, List.reverse_nil, List.nil_append, List.cons_append] at F'); (try k_fold))
  k_steps
  exact hret _ _ _ _ ⟨_, _, _, rfl, rfl⟩ (by assumption) (by assumption)
end

end Mine
/- part C10 -/
set_option Elab.async false
set_option maxRecDepth 100000
set_option maxHeartbeats 8000000
namespace Mine
theorem Ct.mono {w : World} {k : Nat} {f : Addr} {args : List Value} {news : List (Addr × Obj)} {R R' : Value → List (Addr × Obj) → Prop} (C : Ct w k f args news R) (h : ∀ r l, R r l → R' r l) : Ct w k f args news R' :=
  fun p loose mean mg mb dp un gd cn cs a ccd cl outer A₀ base h₀ L m s Q E B F X N T hk hd hu c => C p loose mean mg mb dp un gd cn cs a ccd cl outer A₀ base h₀ L m s Q E B F X N T hk hd hu fun v n h' tk r => c v n h' tk (h _ _ r)
theorem Ct0.mono {w : World} {k : Nat} {f : Addr} {args : List Value} {news : List (Addr × Obj)} {R R' : Value → List (Addr × Obj) → Prop} (C : Ct0 w k f args news R) (h : ∀ r l, R r l → R' r l) : Ct0 w k f args news R' :=
  fun p loose mean mg mb dp un gd cn cs a ccd A₀ base h₀ L m s Q E B F X N T XB TB hk hd hu c => C p loose mean mg mb dp un gd cn cs a ccd A₀ base h₀ L m s Q E B F X N T XB TB hk hd hu fun v n h' tk r => c v n h' tk (h _ _ r)
theorem Ct0.up {w : World} {k k' : Nat} {f : Addr} {args : List Value} {news : List (Addr × Obj)} {R : Value → List (Addr × Obj) → Prop} (C : Ct0 w k f args news R) (hk : k ≤ k') : Ct0 w k' f args news R :=
  fun p loose mean mg mb dp un gd cn cs a ccd A₀ base h₀ L m s Q E B F X N T XB TB hk' hd hu c => C p loose mean mg mb dp un gd cn cs a ccd A₀ base h₀ L m s Q E B F X N T XB TB hk' (by omega) (by omega) c
abbrev adrs (l : List (Addr × Obj)) : List Addr := l.map (·.1)
theorem updF_of {a : Addr} {o : Obj} : ∀ {l : List (Addr × Obj)}, (adrs l).Nodup → (a, o) ∈ l → ∃ g, UpdF a o l g ∧ ∀ o', adrs (g o') = adrs l
  | p :: r, nd, hm => by
    rw [adrs, List.map_cons, List.nodup_cons] at nd
    rcases List.mem_cons.mp hm with rfl | hm
    · exact ⟨_, .head fun q hq e => nd.1 (by show a ∈ _; rw [← e]; exact List.mem_map_of_mem (f := (·.1)) hq), fun _ => rfl⟩
    · obtain ⟨g, U, e⟩ := updF_of nd.2 hm
      refine ⟨_, .tail (fun e => nd.1 (by rw [e]; exact List.mem_map_of_mem (f := (·.1)) hm)) U, fun o' => ?_⟩
      show _ :: _ = _ :: _
      exact congrArg _ (e o')
/-- l1 is l with what chg says put in -/
structure Ch (chg l l1 : List (Addr × Obj)) : Prop where
  adr : adrs l1 = adrs l
  there : ∀ p ∈ chg, p ∈ l1
  keep : ∀ p ∈ l, (∀ c ∈ chg, p.1 ≠ c.1) → p ∈ l1
theorem Ch.same {l : List (Addr × Obj)} {chg : List (Addr × Obj)} (h : ∀ p ∈ chg, p ∈ l) : Ch chg l l := ⟨rfl, h, fun _ hp _ => hp⟩
theorem Ch.one {l : List (Addr × Obj)} {g : Obj → List (Addr × Obj)} {a : Addr} {o o' : Obj} (U : UpdF a o l g) (e : ∀ o', adrs (g o') = adrs l) {chg : List (Addr × Obj)} (h : ∀ p ∈ chg, p = (a, o') ∨ (p ∈ l ∧ p.1 ≠ a)) (hin : (a, o') ∈ chg) : Ch chg l (g o') :=
  ⟨e o', fun p hp => by
    rcases h p hp with rfl | ⟨h1, h2⟩
    · exact updF_mem U o'
    · exact updF_keep U o' h1 h2, fun p hp hn => updF_keep U o' hp (hn _ hin)⟩
def isErr (W : Int) (v : Value) : Bool := (W == 0 || W == 1) && v == .none
def newU (W : Int) (v : Value) (q r u : Str) : Str := if (W = 0 ∨ W = 1) ∧ v ≠ .none then q else if W = 5 then r ++ Str.ofString " " ++ q else if W = 6 then Str.ofString "/ " ++ q else u
def newD (W : Int) (v : Value) (q d : Str) : Str := if (W = 2 ∨ W = 3) ∧ v ≠ .none then q else if W = 4 ∧ v ≠ .none then noted d q else d
def newK (W : Int) (v : Value) (kvs : List (Str × Value)) : List (Str × Value) := if W = 7 then stored kvs (Str.ofString "k") v else kvs
def newE (W : Int) (oa e : Value) : Value := if W = 8 then oa else e
def resL (b : Bool) (t t' : Tok) : Obj := if b then errL t t' else okL t
theorem nine {W : Int} (h : 0 ≤ W ∧ W < 9) : W = 0 ∨ W = 1 ∨ W = 2 ∨ W = 3 ∨ W = 4 ∨ W = 5 ∨ W = 6 ∨ W = 7 ∨ W = 8 := by omega
section
variable {w : World} {da mi va pa : Addr} {l : List (Addr × Obj)} {u ws q r : Str} {v e pv : Value} {tu tw tW tq tr : Tok} {od om : Obj} {mk : List (Str × Value)} {W : Int}
theorem due_all (nd : (adrs l).Nodup) (hd : (da, od) ∈ l) (hdo : od.IsDictOf (strKind PR w) (D4 (.str u tu) (.str ws tw) (.ref mi) e)) (hm : (mi, om) ∈ l) (hmo : om.IsDictOf (strKind PR w) mk) (hdm : da ≠ mi) (hz : mk.length ≤ 100)
    (hv : (Mine.hd.heap_39 w.params).lookup va = some (tupO [v, .str q tq])) (hpv : (Mine.hd.heap_39 w.params).lookup pa = some (tupO [pv, .str r tr])) (hp : Pair v q) (hq : q.length ≤ 8) (hr : r.length ≤ 8) (hws : ws.length ≤ 1000) (hW : 0 ≤ W ∧ W < 9) :
    Ct w 2 661 [.ref da, .int W tW, .ref va, .ref pa] l fun r₁ l' => ∃ rl t t' l1 od' om' tu' tw', r₁ = .ref rl ∧ l' = (rl, resL (isErr W v) t t') :: l1 ∧ Ch [(da, od'), (mi, om')] l l1 ∧
      od'.IsDictOf (strKind PR w) (D4 (.str (newU W v q r u) tu') (.str (newD W v q ws) tw') (.ref mi) e) ∧ om'.IsDictOf (strKind PR w) (newK W v mk) := by
  obtain ⟨gd, U, eU⟩ := updF_of nd hd
  obtain ⟨gm, Um, eUm⟩ := updF_of nd hm
  have C0 : Ch [(da, od), (mi, om)] l l := Ch.same fun p hp => by
    rcases List.mem_cons.mp hp with rfl | hp
    · exact hd
    · rw [List.mem_singleton.mp hp]; exact hm
  have C1 : ∀ od', Ch [(da, od'), (mi, om)] l (gd od') := fun od' => Ch.one U eU (fun p hp => by
    rcases List.mem_cons.mp hp with rfl | hp
    · exact .inl rfl
    · rw [List.mem_singleton.mp hp]; exact .inr ⟨hm, hdm.symm⟩) (.head _)
  have C2 : ∀ om', Ch [(da, od), (mi, om')] l (gm om') := fun om' => Ch.one Um eUm (fun p hp => by
    rcases List.mem_cons.mp hp with rfl | hp
    · exact .inr ⟨hd, hdm⟩
    · exact .inl (List.mem_singleton.mp hp)) (.tail _ (.head _))
  rcases nine hW with rfl | rfl | rfl | rfl | rfl | rfl | rfl | rfl | rfl
  · by_cases hn : v = .none
    · subst hn
      refine (due0n hd hdo hv).mono fun r₁ l' h => ?_
      obtain ⟨rl, t', t'', rfl, rfl⟩ := h
      exact ⟨rl, t', t'', l, od, om, tu, tw, rfl, rfl, C0, hdo, hmo⟩
    · refine (due0 hd hdo U hv hp hn).mono fun r₁ l' h => ?_
      obtain ⟨rl, od', t', tx, rfl, hd', rfl⟩ := h
      have en : isErr 0 v = false := by simp [isErr, hn]
      have eu : newU 0 v q r u = q := by simp [newU, hn]
      refine ⟨rl, t', t', _, od', om, tx, tw, rfl, by rw [en]; rfl, C1 od', by rw [eu]; exact hd', hmo⟩
  · by_cases hn : v = .none
    · subst hn
      refine (due1n hd hdo hv).mono fun r₁ l' h => ?_
      obtain ⟨rl, t', t'', rfl, rfl⟩ := h
      exact ⟨rl, t', t'', l, od, om, tu, tw, rfl, rfl, C0, hdo, hmo⟩
    · refine (due1 hd hdo U hv hp hn).mono fun r₁ l' h => ?_
      obtain ⟨rl, od', t', tx, rfl, hd', rfl⟩ := h
      have en : isErr 1 v = false := by simp [isErr, hn]
      have eu : newU 1 v q r u = q := by simp [newU, hn]
      refine ⟨rl, t', t', _, od', om, tx, tw, rfl, by rw [en]; rfl, C1 od', by rw [eu]; exact hd', hmo⟩
  · by_cases hn : v = .none
    · subst hn
      refine (due2n hd hdo hv).mono fun r₁ l' h => ?_
      obtain ⟨rl, t', rfl, rfl⟩ := h
      exact ⟨rl, t', t', l, od, om, tu, tw, rfl, rfl, C0, hdo, hmo⟩
    · refine (due2 hd hdo U hv hp hn).mono fun r₁ l' h => ?_
      obtain ⟨rl, od', t', tx, rfl, hd', rfl⟩ := h
      have eu : newD 2 v q ws = q := by simp [newD, hn]
      exact ⟨rl, t', t', _, od', om, tu, tx, rfl, rfl, C1 od', by rw [eu]; exact hd', hmo⟩
  · by_cases hn : v = .none
    · subst hn
      refine (due3n hd hdo hv).mono fun r₁ l' h => ?_
      obtain ⟨rl, t', rfl, rfl⟩ := h
      exact ⟨rl, t', t', l, od, om, tu, tw, rfl, rfl, C0, hdo, hmo⟩
    · refine (due3 hd hdo U hv hp hn).mono fun r₁ l' h => ?_
      obtain ⟨rl, od', t', tx, rfl, hd', rfl⟩ := h
      have eu : newD 3 v q ws = q := by simp [newD, hn]
      exact ⟨rl, t', t', _, od', om, tu, tx, rfl, rfl, C1 od', by rw [eu]; exact hd', hmo⟩
  · by_cases hn : v = .none
    · subst hn
      refine (due4n hd hdo hv).mono fun r₁ l' h => ?_
      obtain ⟨rl, t', rfl, rfl⟩ := h
      exact ⟨rl, t', t', l, od, om, tu, tw, rfl, rfl, C0, hdo, hmo⟩
    · refine (due4 hd hdo U hv hp hn hq hws).mono fun r₁ l' h => ?_
      obtain ⟨rl, od', t', tx, rfl, hd', rfl⟩ := h
      have eu : newD 4 v q ws = noted ws q := by simp [newD, hn]
      exact ⟨rl, t', t', _, od', om, tu, tx, rfl, rfl, C1 od', by rw [eu]; exact hd', hmo⟩
  · refine (due5 hd hdo U hv hp hq hr hpv).mono fun r₁ l' h => ?_
    obtain ⟨rl, od', t', tx, rfl, hd', rfl⟩ := h
    exact ⟨rl, t', t', _, od', om, tx, tw, rfl, rfl, C1 od', hd', hmo⟩
  · refine (due6 hd hdo U hv hp hq).mono fun r₁ l' h => ?_
    obtain ⟨rl, od', t', tx, rfl, hd', rfl⟩ := h
    exact ⟨rl, t', t', _, od', om, tx, tw, rfl, rfl, C1 od', hd', hmo⟩
  · refine (due7 hd hdo hv hp hm hmo Um hz).mono fun r₁ l' h => ?_
    obtain ⟨rl, om', t', rfl, hm', rfl⟩ := h
    exact ⟨rl, t', t', _, od, om', tu, tw, rfl, rfl, C2 om', hdo, hm'⟩
  · refine (due8 hd hdo hv hp).mono fun r₁ l' h => ?_
    obtain ⟨rl, t', rfl, rfl⟩ := h
    exact ⟨rl, t', t', l, od, om, tu, tw, rfl, rfl, C0, hdo, hmo⟩
end
section
variable {w : World} {x dx ea : Addr} {l : List (Addr × Obj)} {f : Str → Option (Option Value)} {es : List DictEntry} {n : Nat} {u d q r : Str} {v pv oa : Value} {tW : Tok} {eo : Obj} {kvs : List (Str × Value)} {W : Int}
theorem told_all (nd : (adrs l).Nodup) (hx : (x, instObj 522 dx) ∈ l) (hd : (dx, dictOf es n) ∈ l) (T : TD f es (.ref ea) u d) (he : (ea, eo) ∈ l) (hke : eo.IsDictOf (strKind PR w) kvs) (hde : dx ≠ ea) (hz : kvs.length ≤ 100)
    (hp : Pair v q) (hpr : Pair pv r) (hq : q.length ≤ 8) (hr : r.length ≤ 8) (hdl : d.length ≤ 1000) (hW : 0 ≤ W ∧ W < 9) :
    Ct0 w 9 654 [.ref x, .int W tW, v, pv, oa] l fun r₁ l' => ∃ rl t t' l1 es' n' eo', r₁ = .ref rl ∧ l' = (rl, resL (isErr W v) t t') :: l1 ∧ Ch [(dx, dictOf es' n'), (ea, eo')] l l1 ∧
      TD f es' (newE W oa (.ref ea)) (newU W v q r u) (newD W v q d) ∧ eo'.IsDictOf (strKind PR w) (newK W v kvs) := by
  obtain ⟨g, U, eU⟩ := updF_of nd hd
  obtain ⟨ge, Ue, eUe⟩ := updF_of nd he
  have C0 : Ch [(dx, dictOf es n), (ea, eo)] l l := Ch.same fun p hp => by
    rcases List.mem_cons.mp hp with rfl | hp
    · exact hd
    · rw [List.mem_singleton.mp hp]; exact he
  have C1 : ∀ o', Ch [(dx, o'), (ea, eo)] l (g o') := fun o' => Ch.one U eU (fun p hp => by
    rcases List.mem_cons.mp hp with rfl | hp
    · exact .inl rfl
    · rw [List.mem_singleton.mp hp]; exact .inr ⟨he, hde.symm⟩) (.head _)
  have C2 : ∀ o', Ch [(dx, dictOf es n), (ea, o')] l (ge o') := fun o' => Ch.one Ue eUe (fun p hp => by
    rcases List.mem_cons.mp hp with rfl | hp
    · exact .inr ⟨hd, hde⟩
    · exact .inl (List.mem_singleton.mp hp)) (.tail _ (.head _))
  have up : ∀ {W : Int} {v : Value} {u' d' : Str} {e' : Value}, isErr W v = false → newE W oa (.ref ea) = e' → newU W v q r u = u' → newD W v q d = d' → newK W v kvs = kvs →
      Ct w 5 647 [.ref x, .int W tW, v, pv, oa] l (fun r₁ l' => r₁ = .none ∧ ∃ es' n', TD f es' e' u' d' ∧ l' = g (dictOf es' n')) →
      Ct0 w 9 654 [.ref x, .int W tW, v, pv, oa] l fun r₁ l' => ∃ rl t t' l1 es' n' eo', r₁ = .ref rl ∧ l' = (rl, resL (isErr W v) t t') :: l1 ∧ Ch [(dx, dictOf es' n'), (ea, eo')] l l1 ∧
      TD f es' (newE W oa (.ref ea)) (newU W v q r u) (newD W v q d) ∧ eo'.IsDictOf (strKind PR w) (newK W v kvs) := fun h1 h2 h3 h4 h5 C => by
    refine ((told_ok C).to0.up (by decide)).mono fun r₁ l' h => ?_
    obtain ⟨rl, t, l1, rfl, ⟨es', n', T', rfl⟩, rfl⟩ := h
    exact ⟨rl, t, t, _, es', n', eo, rfl, by rw [h1]; rfl, C1 _, by rw [h2, h3, h4]; exact T', by rw [h5]; exact hke⟩
  have same : ∀ {W : Int} {v : Value}, isErr W v = false → newE W oa (.ref ea) = .ref ea → newU W v q r u = u → newD W v q d = d → newK W v kvs = kvs →
      Ct w 5 647 [.ref x, .int W tW, v, pv, oa] l (fun r₁ l' => r₁ = .none ∧ l' = l) →
      Ct0 w 9 654 [.ref x, .int W tW, v, pv, oa] l fun r₁ l' => ∃ rl t t' l1 es' n' eo', r₁ = .ref rl ∧ l' = (rl, resL (isErr W v) t t') :: l1 ∧ Ch [(dx, dictOf es' n'), (ea, eo')] l l1 ∧
      TD f es' (newE W oa (.ref ea)) (newU W v q r u) (newD W v q d) ∧ eo'.IsDictOf (strKind PR w) (newK W v kvs) := fun h1 h2 h3 h4 h5 C => by
    refine ((told_ok C).to0.up (by decide)).mono fun r₁ l' h => ?_
    obtain ⟨rl, t, l1, rfl, rfl, rfl⟩ := h
    exact ⟨rl, t, t, _, es, n, eo, rfl, by rw [h1]; rfl, C0, by rw [h2, h3, h4]; exact T, by rw [h5]; exact hke⟩
  rcases nine hW with rfl | rfl | rfl | rfl | rfl | rfl | rfl | rfl | rfl
  · by_cases hn : v = .none
    · subst hn
      refine (told_err0 hx hd T).mono fun r₁ l' h => ?_
      obtain ⟨rl, t', t'', rfl, rfl⟩ := h
      exact ⟨rl, t', t'', l, es, n, eo, rfl, rfl, C0, T, hke⟩
    · exact up (by simp [isErr, hn]) rfl (by simp [newU, hn]) rfl rfl (act0 hx hd T U hp hn)
  · by_cases hn : v = .none
    · subst hn
      refine (told_err1 hx hd T).mono fun r₁ l' h => ?_
      obtain ⟨rl, t', t'', rfl, rfl⟩ := h
      exact ⟨rl, t', t'', l, es, n, eo, rfl, rfl, C0, T, hke⟩
    · exact up (by simp [isErr, hn]) rfl (by simp [newU, hn]) rfl rfl (act1 hx hd T U hp hn)
  · by_cases hn : v = .none
    · subst hn
      exact same rfl rfl rfl rfl rfl (act2n hx hd T)
    · exact up rfl rfl rfl (by simp [newD, hn]) rfl (act2 hx hd T U hp hn)
  · by_cases hn : v = .none
    · subst hn
      exact same rfl rfl rfl rfl rfl (act3n hx hd T)
    · exact up rfl rfl rfl (by simp [newD, hn]) rfl (act3 hx hd T U hp hn)
  · by_cases hn : v = .none
    · subst hn
      exact same rfl rfl rfl rfl rfl (act4n hx hd T)
    · exact up rfl rfl rfl (by simp [newD, hn]) rfl (act4 hx hd T U hp hn hq hdl)
  · exact up rfl rfl rfl rfl rfl (act5 hx hd T U hp hpr hq hr)
  · exact up rfl rfl rfl rfl rfl (act6 hx hd T U hp hq)
  · refine ((told_ok (act7 hx hd T rfl he hke Ue hz)).to0.up (by decide)).mono fun r₁ l' h => ?_
    obtain ⟨rl, t, l1, rfl, ⟨eo', hk', rfl⟩, rfl⟩ := h
    exact ⟨rl, t, t, _, es, n, eo', rfl, rfl, C2 _, T, hk'⟩
  · exact up rfl rfl rfl rfl rfl (act8 hx hd T U)
end
end Mine
/- part M1 -/
set_option Elab.async false
set_option maxRecDepth 100000
set_option maxHeartbeats 8000000
namespace Mine
theorem fill_M1 : PySem.Challenge.rw_ft5041_01 = PySem.Challenge.rw_ft5041_01 ∧ Mine.hd.heap_39 = Mine.hd.heap_39 := by
  k_fill
  exact ⟨rfl, rfl⟩
theorem nd_cons {d : Addr} {o : Obj} {l : List (Addr × Obj)} (h : ∀ p ∈ l, p.1 < d) (n : (adrs l).Nodup) : (adrs ((d, o) :: l)).Nodup := by
  refine List.nodup_cons.mpr ⟨fun hm => ?_, n⟩
  obtain ⟨p, hp, e⟩ := List.mem_map.mp hm
  have := h p hp
  rw [e] at this
  exact Nat.lt_irrefl _ this
theorem updF_adrs {d : Addr} {o : Obj} {news : List (Addr × Obj)} {g : Obj → List (Addr × Obj)} (U : UpdF d o news g) (o' : Obj) : adrs (g o') = adrs news := by
  induction U with
  | head h => rfl
  | tail h _ ih => exact congrArg (_ :: ·) ih
theorem upd_adrs {d : Addr} {o o' : Obj} {news news' : List (Addr × Obj)} (U : Upd d o o' news news') : adrs news' = adrs news := by
  induction U with
  | head h => rfl
  | tail h _ ih => exact congrArg (_ :: ·) ih
/-- two entries of one address -/
theorem nd_fun {l : List (Addr × Obj)} (n : (adrs l).Nodup) {a : Addr} {o o' : Obj} (h : (a, o) ∈ l) (h' : (a, o') ∈ l) : o = o' := by
  induction l with
  | nil => nomatch h
  | cons p r ih =>
    rw [adrs, List.map_cons, List.nodup_cons] at n
    rcases List.mem_cons.mp h with rfl | h1
    · rcases List.mem_cons.mp h' with e | h2
      · cases e; rfl
      · exact absurd (List.mem_map_of_mem (f := (·.1)) h2) n.1
    · rcases List.mem_cons.mp h' with rfl | h2
      · exact absurd (List.mem_map_of_mem (f := (·.1)) h1) n.1
      · exact ih n.2 h1 h2
section
variable {prog : Program} {w : World} {M : Model} {A : Around} {E : Value → Shared → Prop} {s : Shared} {h₀ h h' : Heap} {L D : Addr} {m : Str → Option Value} {news news' pre post : List (Addr × Obj)} {o o' : Obj}
theorem settle {a : Addr} (N : News h₀ L h ((a, o) :: news)) (n : (adrs news).Nodup) : ∃ l2, News h₀ L h l2 ∧ (adrs l2).Nodup ∧ (a, o) ∈ l2 ∧ ∀ p ∈ news, p ∈ l2 := by
  by_cases q : a ∈ adrs news
  · obtain ⟨p, hp, rfl⟩ := List.mem_map.mp q
    have h1 := (N _ (.head _)).1
    have h2 := (N _ (.tail _ hp)).1
    have e : o = p.2 := by
      have h3 : h.get? p.1 = some o := h1
      rw [h3] at h2; exact Option.some.inj h2
    subst e
    exact ⟨news, fun q hq => N q (.tail _ hq), n, hp, fun p hp => hp⟩
  · exact ⟨_, N, List.nodup_cons.mpr ⟨q, n⟩, .head _, fun p hp => .tail _ hp⟩
theorem m_list {vs : List Value} {Q : Value → Shared → Prop} (F : Fr h₀ L s.heap m) (N : News h₀ L s.heap news) (n : (adrs news).Nodup)
    (h : ∀ l h', Fr h₀ L h' m → News h₀ L h' ((l, listOf vs.toArray 0) :: news) → (adrs ((l, listOf vs.toArray 0) :: news)).Nodup → Q (.ref l) { s with heap := h' }) (hsz : vs.length ≤ sizeLine := by size_fits) : wpAny M A (newList vs) Q E s :=
  newList_K F N (fun l h' F' N' lt => h l h' F' N' (nd_cons lt n)) hsz
theorem m_dict0 {env : Env} {pos : Pos} {Q : Value → Shared → Prop} (F : Fr h₀ L s.heap m) (N : News h₀ L s.heap news) (hbig : h₀.NoLimit) (n : (adrs news).Nodup)
    (k : ∀ d h' o, Fr h₀ L h' m → News h₀ L h' ((d, o) :: news) → (adrs ((d, o) :: news)).Nodup → (d == sysModules) = false → o.IsDictOf (strKind prog w) [] → Q (.ref d) { s with heap := h' }) : wpAny (model prog w) A (eval (.Dict [] [] pos) env) Q E s :=
  newDict_K F N hbig fun d h' o F' N' lt sm ho _ _ _ => k d h' o F' N' (nd_cons lt n) sm ho
theorem m_dict {env : Env} {keys : List (Option PySem.Expr)} {values : List PySem.Expr} {pos : Pos} {Q : Value → Shared → Prop} (F : Fr h₀ L s.heap m) (N : News h₀ L s.heap news) (hbig : h₀.NoLimit) (n : (adrs news).Nodup)
    (q : strLits keys = true) (hall : keys.all (·.isSome) = true) (hl : keys.length = values.length) (h0 : keys ≠ []) (hlen : keys.length ≤ 15)
    (h : ∀ (d : Addr) h' o, Fr h₀ L h' m → News h₀ L h' ((d, o) :: news) → (adrs ((d, o) :: news)).Nodup → (d == sysModules) = false → o.IsDictOf (PySem.strKind prog w) [] →
      wpAny (model prog w) A (evalPairs (pairTrees keys values env pos)) (fun vs s₁ => KdnMade prog w (PySem.strKind prog w) d Q vs s₁) E { s with heap := h' }) :
    wpAny (model prog w) A (eval (.Dict keys values pos) env) Q E s :=
  kdn_str q F N hbig hall hl h0 hlen fun d h' o F' N' lt sm ho => h d h' o F' N' (nd_cons lt n) sm ho
theorem m_made {vs : List (Value × Value)} {d : Addr} {g : Obj → List (Addr × Obj)} {Q : Value → Shared → Prop} (F : Fr h₀ L s.heap m) (N : News h₀ L s.heap news) (U : UpdF d o news g) (n : (adrs news).Nodup) (hd : o.IsDictOf (PySem.strKind prog w) []) (hk : allStrKeys vs = true) (hn : ((strPairs vs).map (·.1)).Nodup)
    (h : ∀ h' o', Fr h₀ L h' m → News h₀ L h' (g o') → (adrs (g o')).Nodup → o'.IsDictOf (PySem.strKind prog w) (strPairs vs) → Q (.ref d) { s with heap := h', toks := s.toks + vs.length }) : KdnMade prog w (PySem.strKind prog w) d Q vs s :=
  kdn_made_str F N U hd hk hn fun h' o' F' N' d' => h h' o' F' N' (by rw [updF_adrs U]; exact n) d'
theorem m_is {a b : Addr} {oa ob : Obj} {Q : Value → Shared → Prop} (hab : a ≠ b) (N : News h₀ L s.heap news) (pa : (a, oa) ∈ news) (pb : (b, ob) ∈ news) (da : oa.IsDictOf (strKind prog w) []) (db : ob.IsDictOf (strKind prog w) []) (h : Q (.bool false) s) : wpAny M A (compareOp .Is (.ref a) (.ref b)) Q E s := by
  obtain ⟨es, ep, ha, _⟩ := da
  obtain ⟨es', ep', hb, _⟩ := db
  exact wpAny_is_ref_other hab (N _ pa).1 (N _ pb).1 (by rw [ha.1]; decide) h
theorem m_isnot {a : Addr} {Q : Value → Shared → Prop} (h : Q (.bool false) s) : wpAny M A (compareOp .IsNot (.ref a) (.ref a)) Q E s :=
  wpAny_isNot_ref_self h
theorem m_item {value slice : PySem.Expr} {l : Addr} {vs : Array Value} {n : Nat} {k : Int} {u : Tok} {v : Value} {Q : Value → Shared → Prop} (N : News h₀ L s.heap news) (hm : (l, listOf vs n) ∈ news) (h0 : 0 ≤ k) (hhi : k < 2 ^ 63) (hx : vs.toList[k.toNat]? = some v) (h : Q v s)
    (hs : subscripted slice false (.ref l) (.int k u) = operate [.ref l, .int k u] (getItem (.ref l) (.int k u)) := by with_unfolding_all rfl) :
    wpAny (model prog w) A (subscriptTail value slice (.ref l) (.int k u)) Q E s :=
  item_litK (vs := vs.toList) (by simpa using (PySem.IsL.isList (n := n) (N _ hm).1)) h0 hhi hx h hs
theorem m_ne0 {a b : Addr} {oa ob : Obj} {Q : Value → Shared → Prop} (N : News h₀ L s.heap news) (pa : (a, oa) ∈ news) (pb : (b, ob) ∈ news) (da : oa.IsDictOf (strKind prog w) []) (db : ob.IsDictOf (strKind prog w) []) (la : (a == sysModules) = false) (lb : (b == sysModules) = false) (hu : A.units < cLine)
    (h : Q (.bool false) s) : wpAny (model prog w) A (compareOp .NotEq (.ref a) (.ref b)) Q E s :=
  kne_pairs N pa pb da db la lb rfl hu .nil h
theorem m_res {a b : Addr} {c : Bool} {t t' u u' : Tok} {Q : Value → Shared → Prop} (N : News h₀ L s.heap news) (pa : (a, resL c t t') ∈ news) (pb : (b, resL c u u') ∈ news) (hu : A.units + 64 < cLine) (h : Q (.bool false) s) : wpAny (model prog w) A (compareOp .NotEq (.ref a) (.ref b)) Q E s := by
  cases c
  · refine PyProof.Rows.ne_dataH_same (reads_newData (D := a) ⟨_, (N _ pa).1, rfl, _, rfl⟩ (.cons (.str _ _) (.cons .none .nil))) (reads_newData (D := b) ⟨_, (N _ pb).1, rfl, _, rfl⟩ (.cons (.str _ _) (.cons .none .nil))) (by decide +kernel) (by decide +kernel) hu (by decide +kernel) ?_
    exact h
  · refine PyProof.Rows.ne_dataH_same (reads_newData (D := a) ⟨_, (N _ pa).1, rfl, _, rfl⟩ (.cons (.str _ _) (.cons (.str _ _) .nil))) (reads_newData (D := b) ⟨_, (N _ pb).1, rfl, _, rfl⟩ (.cons (.str _ _) (.cons (.str _ _) .nil))) (by decide +kernel) (by decide +kernel) hu (by decide +kernel) ?_
    exact h
end
section
variable {prog : Program} {w : World} {A : Around} {E : Value → Shared → Prop} {s : Shared} {env : Env} {h₀ : Heap} {x : Str} {body : List Stmt} {Q : Flow → Shared → Prop}
/-- what a turn of the growing loop leaves -/
def GP (h₀ : Heap) (L : Addr) (J : (Str → Option Value) → List (Addr × Obj) → Prop) (I : Addr) (oI : Obj) (s₁ : Shared) (Q : Flow → Shared → Prop) (f : Flow) (s₂ : Shared) : Prop :=
  match f with
  | .ret v => Q (.ret v) s₂
  | .brk => Q .next s₂
  | _ => ∃ h' tk m' l', s₂ = { s₁ with heap := h', toks := tk } ∧ Fr h₀ L h' m' ∧ News h₀ L h' ((I, oI) :: l') ∧ I ∉ adrs l' ∧ J m' l'
theorem range_grow {r : Addr} {b₀ : Int} {t₀ u₀ v₀ : Tok} {n : Nat} {m₀ : Str → Option Value} {news : List (Addr × Obj)} (J : Nat → (Str → Option Value) → List (Addr × Obj) → Prop)
    (hh : A.handled = none) (hr : IsRange s.heap r 0 b₀ 1 t₀ u₀ v₀) (hsmall : Builtin.Range.small 0 b₀ 1 = true) (hn : Builtin.Range.rangeSize 0 b₀ 1 = (n : Int)) (F : Fr h₀ env.locals s.heap m₀) (N : News h₀ env.locals s.heap news) (hj : J 0 m₀ news)
    (turn : ∀ (i : Nat) t m₁ l h tk I oI, i < n → I ∉ adrs l → J i m₁ l → Fr h₀ env.locals h (fun y => if y = x then some (.int (i : Int) t) else m₁ y) → News h₀ env.locals h ((I, oI) :: l) →
      wpAny (model prog w) A (execs body env) (GP h₀ env.locals (J (i + 1)) I oI { s with heap := h, toks := tk } Q) E { s with heap := h, toks := tk })
    (done : ∀ m₁ l h tk, J n m₁ l → Fr h₀ env.locals h m₁ → News h₀ env.locals h l → Q .next { s with heap := h, toks := tk }) :
    wpAny (model prog w) A (pyIter (.ref r)) (fun it s₂ => LoopAtV prog w A h₀ env x body Q E it s₂) E s := by
  refine wpAny_pyIter_range hr hsmall ?_
  refine ⟨s.heap.objs.size, [s.heap.objs.size], [s.heap.objs.size], n, _, _, m₀, news, J, rfl, Walks.range hh _ 0 1 n, ?_, ?_, ?_, (by show IsRangeIter _ _ _ _ _; rw [hn]; simpa using Heap.get?_push_size _ rfl), F.push _, (fun p hp => ⟨Heap.get?_push_of_some _ (N p hp).1, (N p hp).2⟩), hj, ?_, ?_⟩
  · intro hm
    exact absurd F.ns.lt ((List.mem_singleton.mp hm) ▸ Nat.lt_irrefl _)
  · intro b hb
    rw [List.mem_singleton.mp hb]
    exact next_is_new F
  · intro p hp hI
    exact absurd (Heap.lt_size (N p hp).1) ((List.mem_singleton.mp hI) ▸ Nat.lt_irrefl _)
  · rintro i v m₁ l s₁ own ⟨hh', tk', rfl⟩ hin ⟨t, rfl⟩ hJ hoff hown _ hall st F₁ N₁
    obtain ⟨oI, st⟩ : ∃ oI, Heap.get? hh' s.heap.objs.size = some oI := ⟨_, st⟩
    have hmem : (s.heap.objs.size, oI) ∈ own := hall _ (.head _) (next_is_new F) _ st
    have hIl : s.heap.objs.size ∉ adrs l := by
      intro hm
      obtain ⟨p, hp, e⟩ := List.mem_map.mp hm
      exact hoff p hp (by rw [e]; exact .head _)
    have e0 : (0 + (i : Int) * 1) = (i : Int) := by omega
    replace F₁ : Fr h₀ env.locals hh' (fun y => if y = x then some (.int (i : Int) t) else m₁ y) := by rw [← e0]; exact F₁
    have own1 : ∀ p ∈ own, p = (s.heap.objs.size, oI) := fun p hp => by
      have h1 := (N₁ p (List.mem_append_left _ hp)).1
      have h2 := (N₁ _ (List.mem_append_left _ hmem)).1
      have h3 := List.mem_singleton.mp (hown p hp)
      rw [h3] at h1
      have h4 := Option.some.inj (h1.symm.trans h2)
      exact Prod.ext h3 h4
    have N₂ : News h₀ env.locals hh' ((s.heap.objs.size, oI) :: l) := fun p hp => by
      rcases List.mem_cons.mp hp with rfl | hp
      · exact N₁ _ (List.mem_append_left _ hmem)
      · exact N₁ _ (List.mem_append_right _ hp)
    refine wpAny_mono (turn i t m₁ l hh' tk' _ _ hin hIl hJ F₁ N₂) (fun f s₂ p => ?_) fun _ _ e => e
    have fin : (∃ h' tk m' l', s₂ = { s with heap := h', toks := tk } ∧ Fr h₀ env.locals h' m' ∧ News h₀ env.locals h' ((s.heap.objs.size, oI) :: l') ∧ s.heap.objs.size ∉ adrs l' ∧ J (i + 1) m' l') →
        LoopStepU h₀ env.locals [s.heap.objs.size] own (J (i + 1)) { s with heap := hh', toks := tk' } .next s₂ := by
      rintro ⟨h', tk, m', l', e, F', N', hI', hJ'⟩
      refine ⟨rfl, h', tk, m', l', e, F', fun p hp => ?_, fun p hp hq => ?_, hJ'⟩
      · rcases List.mem_append.mp hp with hp | hp
        · rw [own1 p hp]; exact N' _ (.head _)
        · exact N' _ (.tail _ hp)
      · exact hI' (by rw [← List.mem_singleton.mp hq]; exact List.mem_map_of_mem (f := (·.1)) hp)
    cases f with
    | ret v => exact .ret p
    | brk => exact .brk p
    | next => exact .next (fin p)
    | cont => exact .cont (fin p)
  · rintro h' tk m' l' F' N' _ hJ
    exact done m' l' h' tk hJ F' N'
end
end Mine
/- part M2 -/
set_option Elab.async false
set_option maxRecDepth 100000
set_option maxHeartbeats 8000000
namespace Mine
theorem fill_M2 : PySem.Challenge.rw_ft5041_01 = PySem.Challenge.rw_ft5041_01 ∧ Mine.hd.heap_39 = Mine.hd.heap_39 := by
  k_fill
  exact ⟨rfl, rfl⟩
/-- one side's four objects ahead of the others -/
abbrev AL (da : Addr) (od : Obj) (mi : Addr) (om : Obj) (dx : Addr) (d : Obj) (ea : Addr) (eo : Obj) (T : List (Addr × Obj)) : List (Addr × Obj) := (da, od) :: (mi, om) :: (dx, d) :: (ea, eo) :: T
theorem AL.apart {da mi dx ea : Addr} {od om d eo : Obj} {T : List (Addr × Obj)} (nd : (adrs (AL da od mi om dx d ea eo T)).Nodup) :
    (da ≠ mi ∧ da ≠ dx ∧ da ≠ ea ∧ mi ≠ dx ∧ mi ≠ ea ∧ dx ≠ ea) ∧ ∀ p ∈ T, p.1 ≠ da ∧ p.1 ≠ mi ∧ p.1 ≠ dx ∧ p.1 ≠ ea := by
  have h := nd
  simp only [adrs, AL, List.map_cons, List.nodup_cons, List.mem_cons, not_or] at h
  obtain ⟨⟨a1, a2, a3, a4⟩, ⟨b1, b2, b3⟩, ⟨c1, c2⟩, d1, _⟩ := h
  have far : ∀ {a : Addr}, a ∉ T.map (·.1) → ∀ p ∈ T, p.1 ≠ a := fun hn p hp e => hn (e ▸ List.mem_map_of_mem (f := (·.1)) hp)
  exact ⟨⟨a1, a2, a3, b1, b2, c1⟩, fun p hp => ⟨far a4 p hp, far b3 p hp, far c2 p hp, far d1 p hp⟩⟩
section
variable {w : World} {da mi va pa dx ea x : Addr} {T l2 : List (Addr × Obj)} {u ws q r d : Str} {v e pv oa : Value} {tu tw tW tq tr t₁ t₂ : Tok} {od om od' om' eo : Obj} {mk kvs : List (Str × Value)} {W : Int} {f : Str → Option (Option Value)} {es : List DictEntry} {n : Nat}
  {p : Program} {loose : List Str} {mean : ExcName → Option Value} {mg mb : Str → Option Value} {dp un : Nat} {gd : Option (List Code)} {cn : Str} {cs : Scope} {a : Addr} {ccd : Value} {cl : List (Str × Addr)} {outer : List Env}
    {A₀ : Around} {base h₀ : Heap} {L : Addr} {m : Str → Option Value} {s : Shared} {E : Value → Shared → Prop} {Q : Value → Shared → Prop} {o3 : Obj}
theorem due_step (B : Below A₀ base outer h₀) (F : Fr h₀ L s.heap m) (X : (Mine.hd.heap_39 w.params).In h₀) (N : News h₀ L s.heap (AL da od mi om dx o3 ea eo T)) (T' : Top p loose mean mg mb h₀) (hk : cs.kind = .function) (hd : dp + 2 * 2 < recursionLimit) (hu : un + 10 * 2 < cLine)
    (nd : (adrs (AL da od mi om dx o3 ea eo T)).Nodup) (hdo : od.IsDictOf (strKind PR w) (D4 (.str u tu) (.str ws tw) (.ref mi) e)) (hmo : om.IsDictOf (strKind PR w) mk) (hz : mk.length ≤ 100)
    (hv : (Mine.hd.heap_39 w.params).lookup va = some (tupO [v, .str q tq])) (hpv : (Mine.hd.heap_39 w.params).lookup pa = some (tupO [pv, .str r tr])) (hp : Pair v q) (hq : q.length ≤ 8) (hr : r.length ≤ 8) (hws : ws.length ≤ 1000) (hW : 0 ≤ W ∧ W < 9)
    (h : ∀ (rl : Addr) (t t' : Tok) (l2 : List (Addr × Obj)) (od' om' : Obj) (tu' tw' : Tok) (h' : Heap) (tk' : Nat), Fr h₀ L h' m → News h₀ L h' l2 → (adrs l2).Nodup → (rl, resL (isErr W v) t t') ∈ l2 → (∀ p ∈ AL da od' mi om' dx o3 ea eo T, p ∈ l2) →
      od'.IsDictOf (strKind PR w) (D4 (.str (newU W v q r u) tu') (.str (newD W v q ws) tw') (.ref mi) e) → om'.IsDictOf (strKind PR w) (newK W v mk) → Q (.ref rl) { s with heap := h', toks := tk' }) :
    wpAny (model PR w) (ktrTop dp un gd cn cs L a ccd cl outer) (call (.ref 661) [.ref da, .int W tW, .ref va, .ref pa]) Q E s := by
  obtain ⟨⟨a1, a2, a3, a4, a5, a6⟩, far⟩ := AL.apart nd
  refine (due_all nd (.head _) hdo (.tail _ (.head _)) hmo a1 hz hv hpv hp hq hr hws hW).call B F X N T' hk hd hu ?_
  rintro r₁ l' h' tk' ⟨rl, t, t', l1, od', om', tu', tw', rfl, rfl, C, hdo', hmo'⟩ F' N'
  obtain ⟨l2, N2, nd2, hrl, sub⟩ := settle N' (by rw [C.adr]; exact nd)
  refine h rl t t' l2 od' om' tu' tw' h' tk' F' N2 nd2 hrl (fun p hp => sub p ?_) hdo' hmo'
  have k : ∀ p ∈ AL da od mi om dx o3 ea eo T, p.1 ≠ da → p.1 ≠ mi → p ∈ l1 := fun p hp h1 h2 => C.keep p hp fun c hc => by
    rcases List.mem_cons.mp hc with rfl | hc
    · exact h1
    · rw [List.mem_singleton.mp hc]; exact h2
  rcases List.mem_cons.mp hp with rfl | hp
  · exact C.there _ (.head _)
  rcases List.mem_cons.mp hp with rfl | hp
  · exact C.there _ (.tail _ (.head _))
  rcases List.mem_cons.mp hp with rfl | hp
  · exact k _ (.tail _ (.tail _ (.head _))) (Ne.symm a2) (Ne.symm a4)
  rcases List.mem_cons.mp hp with rfl | hp
  · exact k _ (.tail _ (.tail _ (.tail _ (.head _)))) (Ne.symm a3) (Ne.symm a5)
  · exact k _ (.tail _ (.tail _ (.tail _ (.tail _ hp)))) (far p hp).1 (far p hp).2.1
end
section
variable {w : World} {da mi va pa dx ea x rl : Addr} {T l2 : List (Addr × Obj)} {u ws q r d : Str} {v e pv oa : Value} {tu tw tW tq tr t₁ t₂ : Tok} {od om od' om' eo : Obj} {mk kvs : List (Str × Value)} {W : Int} {f : Str → Option (Option Value)} {es : List DictEntry} {n : Nat}
  {p : Program} {loose : List Str} {mean : ExcName → Option Value} {mg mb : Str → Option Value} {dp un : Nat} {gd : Option (List Code)} {cn : Str} {cs : Scope} {a : Addr} {ccd : Value}
    {A₀ : Around} {base h₀ : Heap} {L : Addr} {m : Str → Option Value} {s : Shared} {E : Value → Shared → Prop} {Q : Value → Shared → Prop} {b : Bool}
theorem Ct0.call0 {k : Nat} {fa : Addr} {args : List Value} {news : List (Addr × Obj)} {R : Value → List (Addr × Obj) → Prop} (C : Ct0 w k fa args news R) (B : Below A₀ base [] h₀) (F : Fr h₀ L s.heap m) (X : (Mine.hd.heap_39 w.params).In h₀) (N : News h₀ L s.heap news) (T' : Top p loose mean mg mb h₀) (XB : (Mine.hd.heap_39 w.params).In base) (TB : Top p loose mean mg mb base) (hk : cs.kind = .function)
    (hd : dp + 2 * k < recursionLimit) (hu : un + 10 * k < cLine) (h : ∀ (v : Value) (news' : List (Addr × Obj)) (h' : Heap) (tk' : Nat), R v news' → Fr h₀ L h' m → News h₀ L h' news' → Q v { s with heap := h', toks := tk' }) :
    wpAny (model PR w) (ktrTop dp un gd cn cs L a ccd [] []) (call (.ref fa) args) Q E s :=
  wpAny_call (codeAny_mono (C p loose mean mg mb dp un gd cn cs a ccd A₀ base h₀ L m s Q E B F X N T' XB TB hk hd hu h) fun r s' z => by rcases r with e | (v | _ | _ | _) <;> exact z)
theorem told_step (B : Below A₀ base [] h₀) (F : Fr h₀ L s.heap m) (X : (Mine.hd.heap_39 w.params).In h₀) (N : News h₀ L s.heap l2) (T' : Top p loose mean mg mb h₀) (XB : (Mine.hd.heap_39 w.params).In base) (TB : Top p loose mean mg mb base) (hk : cs.kind = .function) (hd : dp + 2 * 9 < recursionLimit) (hu : un + 10 * 9 < cLine)
    (nd2 : (adrs l2).Nodup) (hrl : (rl, resL b t₁ t₂) ∈ l2) (sub : ∀ p ∈ AL da od mi om dx (dictOf es n) ea eo T, p ∈ l2) (nd : (adrs (AL da od mi om dx (dictOf es n) ea eo T)).Nodup) (hx : (x, instObj 522 dx) ∈ T)
    (TT : TD f es (.ref ea) u d) (hke : eo.IsDictOf (strKind PR w) kvs) (hz : kvs.length ≤ 100) (hp : Pair v q) (hpr : Pair pv r) (hq : q.length ≤ 8) (hr : r.length ≤ 8) (hdl : d.length ≤ 1000) (hW : 0 ≤ W ∧ W < 9)
    (h : ∀ (rt : Addr) (t t' : Tok) (es' : List DictEntry) (n' : Nat) (eo' : Obj) (h' : Heap) (tk' : Nat), Fr h₀ L h' m → News h₀ L h' ((rt, resL (isErr W v) t t') :: (rl, resL b t₁ t₂) :: AL da od mi om dx (dictOf es' n') ea eo' T) →
      TD f es' (newE W oa (.ref ea)) (newU W v q r u) (newD W v q d) → eo'.IsDictOf (strKind PR w) (newK W v kvs) → Q (.ref rt) { s with heap := h', toks := tk' }) :
    wpAny (model PR w) (ktrTop dp un gd cn cs L a ccd [] []) (call (.ref 654) [.ref x, .int W tW, v, pv, oa]) Q E s := by
  obtain ⟨⟨a1, a2, a3, a4, a5, a6⟩, far⟩ := AL.apart nd
  have hdx : (dx, dictOf es n) ∈ l2 := sub _ (.tail _ (.tail _ (.head _)))
  have hea : (ea, eo) ∈ l2 := sub _ (.tail _ (.tail _ (.tail _ (.head _))))
  refine (told_all nd2 (sub _ (.tail _ (.tail _ (.tail _ (.tail _ hx))))) hdx TT hea hke a6 hz hp hpr hq hr hdl hW).call0 B F X N T' XB TB hk hd hu ?_
  rintro r₁ l' h' tk' ⟨rt, t, t', l1, es', n', eo', rfl, rfl, C, TT', hke'⟩ F' N'
  have k : ∀ p ∈ l2, p.1 ≠ dx → p.1 ≠ ea → p ∈ l1 := fun p hp h1 h2 => C.keep p hp fun c hc => by
    rcases List.mem_cons.mp hc with rfl | hc
    · exact h1
    · rw [List.mem_singleton.mp hc]; exact h2
  refine h rt t t' es' n' eo' h' tk' F' (fun p hp => ?_) TT' hke'
  rcases List.mem_cons.mp hp with rfl | hp
  · exact N' _ (.head _)
  refine N' _ (.tail _ ?_)
  rcases List.mem_cons.mp hp with rfl | hp
  · refine k _ hrl (fun e => ?_) (fun e => ?_)
    · have e : rl = dx := e
      subst e
      have := congrArg Obj.cls (nd_fun nd2 hrl hdx)
      cases b <;> exact absurd this (show Value.type "list" ≠ Value.type "dict" by decide)
    · have e : rl = ea := e
      subst e
      have := nd_fun nd2 hrl hea
      subst this
      obtain ⟨es9, ep9, _, hh, _⟩ := hke
      cases b <;> cases hh
  rcases List.mem_cons.mp hp with rfl | hp
  · exact k _ (sub _ (.head _)) a2 a3
  rcases List.mem_cons.mp hp with rfl | hp
  · exact k _ (sub _ (.tail _ (.head _))) a4 a5
  rcases List.mem_cons.mp hp with rfl | hp
  · exact C.there _ (.head _)
  rcases List.mem_cons.mp hp with rfl | hp
  · exact C.there _ (.tail _ (.head _))
  · exact k _ (sub _ (.tail _ (.tail _ (.tail _ (.tail _ hp))))) (far p hp).2.2.1 (far p hp).2.2.2
end
/-- the values of the law's menu -/
theorem menu {w : World} {k : Int} (h : 0 ≤ k ∧ k < 7) : ∃ va v q tq, (Mine.hd.heap_39 w.params).lookup 640 = some (tupO [.ref 633, .ref 634, .ref 635, .ref 636, .ref 637, .ref 638, .ref 639]) ∧ seqIndex? k 7 = some k.toNat ∧
    ([Value.ref 633, .ref 634, .ref 635, .ref 636, .ref 637, .ref 638, .ref 639])[k.toNat]? = some (.ref va) ∧ (Mine.hd.heap_39 w.params).lookup va = some (tupO [v, .str q tq]) ∧ Pair v q ∧ q.length ≤ 8 := by
  have : k = 0 ∨ k = 1 ∨ k = 2 ∨ k = 3 ∨ k = 4 ∨ k = 5 ∨ k = 6 := by omega
  rcases this with rfl | rfl | rfl | rfl | rfl | rfl | rfl
  · exact ⟨_, _, _, _, rfl, by decide, rfl, rfl, .str _ _, by decide⟩
  · exact ⟨_, _, _, _, rfl, by decide, rfl, rfl, .str _ _, by decide⟩
  · exact ⟨_, _, _, _, rfl, by decide, rfl, rfl, .str _ _, by decide⟩
  · exact ⟨_, _, _, _, rfl, by decide, rfl, rfl, .oct _, by decide⟩
  · exact ⟨_, _, _, _, rfl, by decide, rfl, rfl, .bad _, by decide⟩
  · exact ⟨_, _, _, _, rfl, by decide, rfl, rfl, .num _, by decide⟩
  · exact ⟨_, _, _, _, rfl, by decide, rfl, rfl, .none, by decide⟩
end Mine
/- part M3 -/
set_option Elab.async false
set_option maxRecDepth 100000
set_option maxHeartbeats 8000000
namespace Mine
theorem fill_M3 : PySem.Challenge.rw_ft5041_01 = PySem.Challenge.rw_ft5041_01 ∧ Mine.hd.heap_39 = Mine.hd.heap_39 := by
  k_fill
  exact ⟨rfl, rfl⟩
/-- what changes of one side -/
structure SD where
  ea : Addr
  mi : Addr
  es : List DictEntry
  n : Nat
  eo : Obj
  od : Obj
  om : Obj
  u : Str
  ws : Str
  tu : Tok
  tw : Tok
  kvs : List (Str × Value)
abbrev SD.led (S : SD) (dx da : Addr) (T : List (Addr × Obj)) : List (Addr × Obj) := AL da S.od S.mi S.om dx (dictOf S.es S.n) S.ea S.eo T
structure SD.Ok (w : World) (f : Str → Option (Option Value)) (i : Nat) (S : SD) : Prop where
  td : TD f S.es (.ref S.ea) S.u S.ws
  dd : S.od.IsDictOf (strKind PR w) (D4 (.str S.u S.tu) (.str S.ws S.tw) (.ref S.mi) (.ref S.ea))
  de : S.eo.IsDictOf (strKind PR w) S.kvs
  dm : S.om.IsDictOf (strKind PR w) S.kvs
  len : S.kvs.length ≤ i + 1
  wlen : S.ws.length ≤ 12 * i
  se : (S.ea == sysModules) = false
  sm : (S.mi == sysModules) = false
theorem SD.Ok.up {w : World} {f : Str → Option (Option Value)} {i : Nat} {S : SD} (h : S.Ok w f i) : S.Ok w f (i + 1) :=
  ⟨h.td, h.dd, h.de, h.dm, Nat.le_succ_of_le h.len, Nat.le_trans h.wlen (by omega), h.se, h.sm⟩
/-- an item of given: a tuple of two dicts that are equal -/
def GivOK (w : World) (T : List (Addr × Obj)) (ps : List (Addr × Addr)) (v : Value) : Prop :=
  ∃ c a b, v = .ref c ∧ (c, tupO [.ref a, .ref b]) ∈ T ∧ ((a, b) ∈ ps ∨ ∃ oa ob kvs, (a, oa) ∈ T ∧ (b, ob) ∈ T ∧ oa.IsDictOf (strKind PR w) kvs ∧ ob.IsDictOf (strKind PR w) kvs ∧ (a == sysModules) = false ∧ (b == sysModules) = false)
theorem GivOK.mono {w : World} {T T' : List (Addr × Obj)} {ps : List (Addr × Addr)} {v : Value} (h : GivOK w T ps v) (hs : ∀ p ∈ T, p ∈ T') : GivOK w T' ps v := by
  obtain ⟨c, a, b, e, hc, h⟩ := h
  refine ⟨c, a, b, e, hs _ hc, ?_⟩
  rcases h with h | ⟨oa, ob, kvs, ha, hb, r⟩
  · exact .inl h
  · exact .inr ⟨oa, ob, kvs, hs _ ha, hs _ hb, r⟩
/-- what a turn makes of given and of the rest -/
def Outcome (w : World) (S S' : SD) (gs gs' : Array Value) (N : List (Addr × Obj)) : Prop :=
  (N = [] ∧ S'.ea = S.ea ∧ S'.mi = S.mi ∧ gs' = gs) ∨
  ∃ c om9 eo9, N = [(c, tupO [.ref S'.ea, .ref S'.mi]), (S.mi, om9), (S.ea, eo9)] ∧ om9.IsDictOf (strKind PR w) S.kvs ∧ eo9.IsDictOf (strKind PR w) S.kvs ∧ gs' = gs.push (.ref c)
theorem Outcome.giv {w : World} {S S' R : SD} {gs gs' : Array Value} {N T : List (Addr × Obj)} (O : Outcome w S S' gs gs' N) {f : Str → Option (Option Value)} {i : Nat} (ok : S.Ok w f i)
    (h : ∀ v ∈ gs.toList, GivOK w T [(S.ea, S.mi), (R.ea, R.mi)] v) : ∀ v ∈ gs'.toList, GivOK w (N ++ T) [(S'.ea, S'.mi), (R.ea, R.mi)] v := by
  rcases O with ⟨rfl, e1, e2, rfl⟩ | ⟨c, om9, eo9, rfl, hm, he, rfl⟩
  · rw [e1, e2]; exact h
  · intro v hv
    rw [Array.toList_push, List.mem_append, List.mem_singleton] at hv
    rcases hv with hv | rfl
    · obtain ⟨c', a, b, e, hc, h'⟩ := h v hv
      refine ⟨c', a, b, e, List.mem_append_right _ hc, ?_⟩
      rcases h' with h' | ⟨oa, ob, kvs, ha, hb, r⟩
      · rcases List.mem_cons.mp h' with e | h'
        · cases e
          exact .inr ⟨eo9, om9, S.kvs, List.mem_append_left _ (.tail _ (.tail _ (.head _))), List.mem_append_left _ (.tail _ (.head _)), he, hm, ok.se, ok.sm⟩
        · exact .inl (.tail _ h')
      · exact .inr ⟨oa, ob, kvs, List.mem_append_right _ ha, List.mem_append_right _ hb, r⟩
    · exact ⟨c, S'.ea, S'.mi, rfl, List.mem_append_left _ (.head _), .inl (.head _)⟩
theorem ps_swap {w : World} {T : List (Addr × Obj)} {p q : Addr × Addr} {v : Value} (h : GivOK w T [p, q] v) : GivOK w T [q, p] v := by
  obtain ⟨c, a, b, e, hc, h⟩ := h
  refine ⟨c, a, b, e, hc, ?_⟩
  rcases h with h | h
  · left
    rcases List.mem_cons.mp h with e | h
    · rw [e]; exact .tail _ (.head _)
    · rw [List.mem_singleton.mp h]; exact .head _
  · exact .inr h
/-- the ledger, one side ahead -/
abbrev CL (S : SD) (dx da gl : Addr) (gs : Array Value) (gn : Nat) (N : List (Addr × Obj)) (R : SD) (dy db : Addr) (T : List (Addr × Obj)) : List (Addr × Obj) :=
  S.led dx da ((gl, listOf gs gn) :: (N ++ R.led dy db T))
theorem cl_perm {S R : SD} {dx da gl dy db : Addr} {gs : Array Value} {gn : Nat} {N T : List (Addr × Obj)} : (CL S dx da gl gs gn N R dy db T).Perm (CL R dy db gl gs gn [] S dx da (N ++ T)) := by
  haveI : DecidableEq (Addr × Obj) := fun _ _ => Classical.propDecidable _
  refine List.perm_iff_count.mpr fun a => ?_
  simp only [CL, SD.led, AL, List.count_append, List.count_cons, List.nil_append]
  omega
theorem cl_perm0 {S R : SD} {dx da gl dy db : Addr} {gs : Array Value} {gn : Nat} {N T : List (Addr × Obj)} : (CL S dx da gl gs gn N R dy db T).Perm (CL S dx da gl gs gn [] R dy db (N ++ T)) := by
  haveI : DecidableEq (Addr × Obj) := fun _ _ => Classical.propDecidable _
  refine List.perm_iff_count.mpr fun a => ?_
  simp only [CL, SD.led, AL, List.count_append, List.count_cons, List.nil_append]
  omega
theorem perm_nd {l l' : List (Addr × Obj)} (h : l.Perm l') (nd : (adrs l).Nodup) : (adrs l').Nodup := ((h.map (·.1)).nodup_iff).mp nd
section
variable {w : World} {A : Around} {E : Value → Shared → Prop} {s : Shared} {env : Env} {h₀ : Heap} {body : List Stmt} {Q : Flow → Shared → Prop}
abbrev nScript : Str := "script"
abbrev nThings : Str := "things"
abbrev nDead : Str := "dead"
abbrev nGiven : Str := "given"
abbrev nPlace : Str := "place"
def Names (sv : Value) (tl dl gl : Addr) (m : Str → Option Value) : Prop := m nScript = some sv ∧ m nThings = some (.ref tl) ∧ m nDead = some (.ref dl) ∧ m nGiven = some (.ref gl)
theorem names_chain {sv : Value} {tl dl gl : Addr} {m : Str → Option Value} {v : Value} (h : Names sv tl dl gl m) :
    (fun y => if y = nPlace then some v else m y) = fun y => if y = nPlace then some v else if y = nScript then some sv else if y = nThings then some (.ref tl) else if y = nDead then some (.ref dl) else if y = nGiven then some (.ref gl) else m y := by
  obtain ⟨h1, h2, h3, h4⟩ := h
  funext y
  by_cases e : y = nPlace
  · simp [e]
  · by_cases e1 : y = nScript
    · subst e1; rw [if_neg e, if_neg e, if_pos rfl, h1]
    · by_cases e2 : y = nThings
      · subst e2; rw [if_neg e, if_neg e, if_neg e1, if_pos rfl, h2]
      · by_cases e3 : y = nDead
        · subst e3; rw [if_neg e, if_neg e, if_neg e1, if_neg e2, if_pos rfl, h3]
        · by_cases e4 : y = nGiven
          · subst e4; rw [if_neg e, if_neg e, if_neg e1, if_neg e2, if_neg e3, if_pos rfl, h4]
          · rw [if_neg e, if_neg e, if_neg e1, if_neg e2, if_neg e3, if_neg e4]
theorem GP.mono {L : Addr} {J J' : (Str → Option Value) → List (Addr × Obj) → Prop} {I : Addr} {oI : Obj} {s₁ s₂ : Shared} {f : Flow} (h : GP h₀ L J I oI s₁ Q f s₂) (k : ∀ h' m' l', I ∉ adrs l' → News h₀ L h' ((I, oI) :: l') → J m' l' → ∃ l2, I ∉ adrs l2 ∧ News h₀ L h' ((I, oI) :: l2) ∧ J' m' l2) : GP h₀ L J' I oI s₁ Q f s₂ := by
  cases f with
  | ret v => exact h
  | brk => exact h
  | next =>
    obtain ⟨h', tk, m', l', e, F', N', hI, hJ⟩ := h
    obtain ⟨l2, h2, N2, J2⟩ := k h' m' l' hI N' hJ
    exact ⟨h', tk, m', l2, e, F', N2, h2, J2⟩
  | cont =>
    obtain ⟨h', tk, m', l', e, F', N', hI, hJ⟩ := h
    obtain ⟨l2, h2, N2, J2⟩ := k h' m' l' hI N' hJ
    exact ⟨h', tk, m', l2, e, F', N2, h2, J2⟩
/-- the turn of one side -/
def Core (w : World) (A : Around) (E : Value → Shared → Prop) (s : Shared) (env : Env) (h₀ : Heap) (body : List Stmt) (Q : Flow → Shared → Prop) (ns : List Int) (sv : Value) (tl dl gl : Addr) (xs ds : List Value) : Prop :=
  ∀ (i : Nat) (t : Tok) (x dx da : Addr) (f : Str → Option (Option Value)) (S : SD) (gs : Array Value) (gn : Nat) (T : List (Addr × Obj)) (u : Str → Option Value) (h : Heap) (tk : Nat) (I : Addr) (oI : Obj) (nn : Int), i < 20 → (i : Int) < (ns.length : Int) → ns[i]? = some nn →
    xs[(nn % 2).toNat]? = some (.ref x) → ds[(nn % 2).toNat]? = some (.ref da) → (x, instObj 522 dx) ∈ T → (tl, listOf xs.toArray 0) ∈ T → (dl, listOf ds.toArray 0) ∈ T → S.Ok w f i → gs.size ≤ i →
    (adrs ((I, oI) :: S.led dx da ((gl, listOf gs gn) :: T))).Nodup →
    Fr h₀ env.locals h (fun y => if y = nPlace then some (.int (i : Int) t) else if y = nScript then some sv else if y = nThings then some (.ref tl) else if y = nDead then some (.ref dl) else if y = nGiven then some (.ref gl) else u y) →
    News h₀ env.locals h ((I, oI) :: S.led dx da ((gl, listOf gs gn) :: T)) →
    wpAny (model PR w) A (execs body env) (GP h₀ env.locals (fun m' l' => Names sv tl dl gl m' ∧ ∃ S' gs' gn' N, l' = S'.led dx da ((gl, listOf gs' gn') :: (N ++ T)) ∧ (adrs l').Nodup ∧ S'.Ok w f (i + 1) ∧ gs'.size ≤ i + 1 ∧ Outcome w S S' gs gs' N) I oI { s with heap := h, toks := tk } Q) E { s with heap := h, toks := tk }
/-- the state of the two sides after i turns -/
def Inv (w : World) (sv : Value) (tl dl gl x0 dx0 da0 x1 dx1 da1 : Addr) (f0 f1 : Str → Option (Option Value)) (FX : List (Addr × Obj)) (i : Nat) (m : Str → Option Value) (l : List (Addr × Obj)) : Prop :=
  Names sv tl dl gl m ∧ ∃ S0 S1 gs gn T, l = CL S0 dx0 da0 gl gs gn [] S1 dx1 da1 T ∧ (adrs l).Nodup ∧ S0.Ok w f0 i ∧ S1.Ok w f1 i ∧ gs.size ≤ i ∧ ∃ XX, T = XX ++ FX ∧ ∀ v ∈ gs.toList, GivOK w XX [(S0.ea, S0.mi), (S1.ea, S1.mi)] v
theorem loop_law {L r : Addr} {t₀ u₀ v₀ : Tok} {ns : List Int} {sv : Value} {tl dl gl x0 dx0 da0 x1 dx1 da1 : Addr} {f0 f1 : Str → Option (Option Value)} {FX l : List (Addr × Obj)} {m₀ : Str → Option Value}
    (hL : env.locals = L) (hh : A.handled = none) (hr : IsRange s.heap r 0 (((ns.take 20).length : Nat) : Int) 1 t₀ u₀ v₀) (F : Fr h₀ L s.heap m₀) (N : News h₀ L s.heap l) (hI : Inv w sv tl dl gl x0 dx0 da0 x1 dx1 da1 f0 f1 FX 0 m₀ l)
    (hx0 : (x0, instObj 522 dx0) ∈ FX) (hx1 : (x1, instObj 522 dx1) ∈ FX) (htl : (tl, listOf [Value.ref x0, .ref x1].toArray 0) ∈ FX) (hdl : (dl, listOf [Value.ref da0, .ref da1].toArray 0) ∈ FX)
    (core : Core w A E s env h₀ body Q ns sv tl dl gl [.ref x0, .ref x1] [.ref da0, .ref da1])
    (done : ∀ i m₁ l h tk, i ≤ 20 → Inv w sv tl dl gl x0 dx0 da0 x1 dx1 da1 f0 f1 FX i m₁ l → Fr h₀ L h m₁ → News h₀ L h l → Q .next { s with heap := h, toks := tk }) :
    wpAny (model PR w) A (pyIter (.ref r)) (fun it s₂ => LoopAtV PR w A h₀ env nPlace body Q E it s₂) E s := by
  subst hL
  have hlen : (ns.take 20).length ≤ 20 := by rw [List.length_take]; omega
  refine range_grow (n := (ns.take 20).length) (fun i m l => Inv w sv tl dl gl x0 dx0 da0 x1 dx1 da1 f0 f1 FX i m l) hh hr (small_one (by omega) (by omega) (by omega) (by omega)) (rangeSize_nat _ _) F N hI ?_ (fun m₁ l h tk hJ F' N' => done _ m₁ l h tk hlen hJ F' N')
  intro i t m₁ l h tk I oI hi hIl hJ F₁ N₁
  obtain ⟨hn, S0, S1, gs, gn, T, rfl, nd, ok0, ok1, hgs, XX, eX, hgiv⟩ := hJ
  have hfx : ∀ p ∈ FX, p ∈ T := fun p hp => eX ▸ List.mem_append_right _ hp
  have hi' : i < 20 ∧ i < ns.length := by rw [List.length_take] at hi; omega
  have hget : ns[i]? = some ns[i] := List.getElem?_eq_getElem hi'.2
  rw [names_chain hn] at F₁
  have hpar : ns[i] % 2 = 0 ∨ ns[i] % 2 = 1 := by omega
  rcases hpar with hp | hp
  · refine wpAny_mono (core i t x0 dx0 da0 f0 S0 gs gn (S1.led dx1 da1 T) m₁ h tk I oI _ hi'.1 (by omega) hget (by rw [hp]; rfl) (by rw [hp]; rfl) ?_ ?_ ?_ ok0 hgs (List.nodup_cons.mpr ⟨hIl, nd⟩) F₁ N₁) (fun f s₂ p => p.mono ?_) fun _ _ e => e
    · exact .tail _ (.tail _ (.tail _ (.tail _ (hfx _ hx0))))
    · exact .tail _ (.tail _ (.tail _ (.tail _ (hfx _ htl))))
    · exact .tail _ (.tail _ (.tail _ (.tail _ (hfx _ hdl))))
    · rintro h' m' l' hI' N' ⟨hn', S', gs', gn', NN, rfl, nd', ok', hgs', O⟩
      have pm : (CL S' dx0 da0 gl gs' gn' NN S1 dx1 da1 T).Perm (CL S' dx0 da0 gl gs' gn' [] S1 dx1 da1 (NN ++ T)) := cl_perm0
      refine ⟨_, fun hm => hI' (((pm.map (·.1)).mem_iff).mpr hm), fun p hp => N' p ?_, hn', S', S1, gs', gn', NN ++ T, rfl, perm_nd pm nd', ok', ok1.up, hgs', NN ++ XX, by rw [eX, List.append_assoc], O.giv ok0 hgiv⟩
      rcases List.mem_cons.mp hp with rfl | hp
      · exact .head _
      · exact .tail _ (pm.mem_iff.mpr hp)
  · have pm0 : (CL S0 dx0 da0 gl gs gn [] S1 dx1 da1 T).Perm (CL S1 dx1 da1 gl gs gn [] S0 dx0 da0 T) := cl_perm
    refine wpAny_mono (core i t x1 dx1 da1 f1 S1 gs gn (S0.led dx0 da0 T) m₁ h tk I oI _ hi'.1 (by omega) hget (by rw [hp]; rfl) (by rw [hp]; rfl) ?_ ?_ ?_ ok1 hgs (List.nodup_cons.mpr ⟨fun hm => hIl (((pm0.map (·.1)).mem_iff).mpr hm), perm_nd pm0 nd⟩) F₁ (fun p hp => N₁ p ?_)) (fun f s₂ p => p.mono ?_) fun _ _ e => e
    · exact .tail _ (.tail _ (.tail _ (.tail _ (hfx _ hx1))))
    · exact .tail _ (.tail _ (.tail _ (.tail _ (hfx _ htl))))
    · exact .tail _ (.tail _ (.tail _ (.tail _ (hfx _ hdl))))
    · rcases List.mem_cons.mp hp with rfl | hp
      · exact .head _
      · exact .tail _ (pm0.mem_iff.mpr hp)
    · rintro h' m' l' hI' N' ⟨hn', S', gs', gn', NN, rfl, nd', ok', hgs', O⟩
      have pm : (CL S' dx1 da1 gl gs' gn' NN S0 dx0 da0 T).Perm (CL S0 dx0 da0 gl gs' gn' [] S' dx1 da1 (NN ++ T)) := cl_perm
      refine ⟨_, fun hm => hI' (((pm.map (·.1)).mem_iff).mpr hm), fun p hp => N' p ?_, hn', S0, S', gs', gn', NN ++ T, rfl, perm_nd pm nd', ok0.up, ok', hgs', NN ++ XX, by rw [eX, List.append_assoc], fun v hv => ps_swap (O.giv ok1 (fun v hv => ps_swap (hgiv v hv)) v hv)⟩
      rcases List.mem_cons.mp hp with rfl | hp
      · exact .head _
      · exact .tail _ (pm.mem_iff.mpr hp)
/-- the ledger as the head has laid it -/
abbrev HL (D gl em dl mi1 da1 mi0 da0 tl x1 dx1 ea1 x0 dx0 ea0 : Addr) (ws : Array Value) (wn : Nat) (oe om1 od1 om0 od0 eo1 eo0 : Obj) (es0 es1 : List DictEntry) (n0 n1 : Nat) (st0 st1 TB : List (Addr × Obj)) : List (Addr × Obj) :=
  (D, listOf ws wn) :: (gl, listOf #[] 0) :: (em, oe) :: (dl, listOf #[.ref da0, .ref da1] 0) :: (mi1, om1) :: (da1, od1) :: (mi0, om0) :: (da0, od0) :: (tl, listOf #[.ref x0, .ref x1] 0) :: (x1, instObj 522 dx1) :: (dx1, dictOf es1 n1) :: (ea1, eo1) :: (st1 ++ (x0, instObj 522 dx0) :: (dx0, dictOf es0 n0) :: (ea0, eo0) :: (st0 ++ TB))
abbrev FXL (dl da0 da1 tl x0 x1 dx0 dx1 : Addr) (st0 st1 TB : List (Addr × Obj)) : List (Addr × Obj) :=
  (tl, listOf #[.ref x0, .ref x1] 0) :: (dl, listOf #[.ref da0, .ref da1] 0) :: (x0, instObj 522 dx0) :: (x1, instObj 522 dx1) :: (st0 ++ (st1 ++ TB))
variable {D gl em dl mi1 da1 mi0 da0 tl x1 dx1 ea1 x0 dx0 ea0 L : Addr} {ws : Array Value} {wn : Nat} {oe om1 od1 om0 od0 eo1 eo0 : Obj} {es0 es1 : List DictEntry} {n0 n1 : Nat} {st0 st1 TB : List (Addr × Obj)} {f0 f1 : Str → Option (Option Value)} {ta tb ta' tb' : Tok} {h : Heap} {m : Str → Option Value} {sv : Value}
abbrev S00 (ea0 mi0 : Addr) (es0 : List DictEntry) (n0 : Nat) (eo0 od0 om0 : Obj) (ta tb : Tok) : SD := ⟨ea0, mi0, es0, n0, eo0, od0, om0, Str.ofString "", Str.ofString "", ta, tb, []⟩
theorem start_perm : ((em, oe) :: CL (S00 ea0 mi0 es0 n0 eo0 od0 om0 ta tb) dx0 da0 gl #[] 0 [] (S00 ea1 mi1 es1 n1 eo1 od1 om1 ta' tb') dx1 da1 (FXL dl da0 da1 tl x0 x1 dx0 dx1 st0 st1 TB)).Perm
    ((gl, listOf #[] 0) :: (em, oe) :: (dl, listOf #[.ref da0, .ref da1] 0) :: (mi1, om1) :: (da1, od1) :: (mi0, om0) :: (da0, od0) :: (tl, listOf #[.ref x0, .ref x1] 0) :: (x1, instObj 522 dx1) :: (dx1, dictOf es1 n1) :: (ea1, eo1) :: (st1 ++ (x0, instObj 522 dx0) :: (dx0, dictOf es0 n0) :: (ea0, eo0) :: (st0 ++ TB))) := by
  haveI : DecidableEq (Addr × Obj) := fun _ _ => Classical.propDecidable _
  refine List.perm_iff_count.mpr fun a => ?_
  simp only [CL, SD.led, AL, FXL, S00, List.count_append, List.count_cons, List.nil_append]
  omega
theorem start_news (N : News h₀ L h (HL D gl em dl mi1 da1 mi0 da0 tl x1 dx1 ea1 x0 dx0 ea0 ws wn oe om1 od1 om0 od0 eo1 eo0 es0 es1 n0 n1 st0 st1 TB)) (ta tb ta' tb' : Tok) :
    News h₀ L h (CL (S00 ea0 mi0 es0 n0 eo0 od0 om0 ta tb) dx0 da0 gl #[] 0 [] (S00 ea1 mi1 es1 n1 eo1 od1 om1 ta' tb') dx1 da1 (FXL dl da0 da1 tl x0 x1 dx0 dx1 st0 st1 TB)) := fun p hp =>
  N p (.tail _ (start_perm.mem_iff.mp (.tail _ hp)))
theorem start_inv (N : News h₀ L h (HL D gl em dl mi1 da1 mi0 da0 tl x1 dx1 ea1 x0 dx0 ea0 ws wn oe om1 od1 om0 od0 eo1 eo0 es0 es1 n0 n1 st0 st1 TB))
    (nd : (adrs ((gl, listOf #[] 0) :: (em, oe) :: (dl, listOf #[.ref da0, .ref da1] 0) :: (mi1, om1) :: (da1, od1) :: (mi0, om0) :: (da0, od0) :: (tl, listOf #[.ref x0, .ref x1] 0) :: (x1, instObj 522 dx1) :: (dx1, dictOf es1 n1) :: (ea1, eo1) :: (st1 ++ (x0, instObj 522 dx0) :: (dx0, dictOf es0 n0) :: (ea0, eo0) :: (st0 ++ TB)))).Nodup)
    (hn : Names sv tl dl gl m) (T0 : TD f0 es0 (.ref ea0) (Str.ofString "") (Str.ofString "")) (T1 : TD f1 es1 (.ref ea1) (Str.ofString "") (Str.ofString ""))
    (he0 : eo0.IsDictOf (strKind PR w) []) (he1 : eo1.IsDictOf (strKind PR w) []) (hm0 : om0.IsDictOf (strKind PR w) []) (hm1 : om1.IsDictOf (strKind PR w) [])
    (se0 : (ea0 == sysModules) = false) (se1 : (ea1 == sysModules) = false) (sm0 : (mi0 == sysModules) = false) (sm1 : (mi1 == sysModules) = false)
    (hd0 : od0.IsDictOf (strKind PR w) (D4 (.str (Str.ofString "") ta) (.str (Str.ofString "") tb) (.ref mi0) (.ref ea0))) (hd1 : od1.IsDictOf (strKind PR w) (D4 (.str (Str.ofString "") ta') (.str (Str.ofString "") tb') (.ref mi1) (.ref ea1))) :
    Inv w sv tl dl gl x0 dx0 da0 x1 dx1 da1 f0 f1 (FXL dl da0 da1 tl x0 x1 dx0 dx1 st0 st1 TB) 0 m (CL (S00 ea0 mi0 es0 n0 eo0 od0 om0 ta tb) dx0 da0 gl #[] 0 [] (S00 ea1 mi1 es1 n1 eo1 od1 om1 ta' tb') dx1 da1 (FXL dl da0 da1 tl x0 x1 dx0 dx1 st0 st1 TB)) :=
  ⟨hn, _, _, _, _, _, rfl, (List.nodup_cons.mp (perm_nd start_perm.symm nd)).2, ⟨T0, hd0, he0, hm0, by simp, Nat.le_refl 0, se0, sm0⟩, ⟨T1, hd1, he1, hm1, by simp, Nat.le_refl 0, se1, sm1⟩, by simp, [], rfl, by simp⟩
end
end Mine
/- part NW -/
set_option Elab.async false
set_option maxRecDepth 100000
set_option maxHeartbeats 8000000
namespace Mine
theorem fill_aNW : PySem.Challenge.rw_ft5041_01 = PySem.Challenge.rw_ft5041_01 ∧ Mine.hd.heap_39 = Mine.hd.heap_39 := by
  k_fill
  exact ⟨rfl, rfl⟩
theorem nd_head {d : Addr} {o : Obj} {r : List (Addr × Obj)} (h : (adrs ((d, o) :: r)).Nodup) : ∀ p ∈ r, p.1 ≠ d := fun p hp e => (List.nodup_cons.mp h).1 (e ▸ List.mem_map_of_mem (f := (·.1)) hp)
theorem nd_tl {p : Addr × Obj} {r : List (Addr × Obj)} (h : (adrs (p :: r)).Nodup) : (adrs r).Nodup := (List.nodup_cons.mp h).2
theorem nd_ne1 {p : Addr × Obj} {d : Addr} {o : Obj} {r : List (Addr × Obj)} (h : (adrs (p :: (d, o) :: r)).Nodup) : p.1 ≠ d := fun e => (List.nodup_cons.mp h).1 (by show p.1 ∈ _; rw [e]; exact .head _)
theorem upd_hd {d : Addr} {o : Obj} {r : List (Addr × Obj)} (nd : (adrs ((d, o) :: r)).Nodup) : UpdF d o ((d, o) :: r) (fun o' => (d, o') :: r) := .head (nd_head nd)
theorem upd_tl {p : Addr × Obj} {d : Addr} {o : Obj} {r : List (Addr × Obj)} {g : Obj → List (Addr × Obj)} (nd : (adrs (p :: r)).Nodup) (hm : (d, o) ∈ r) (k : UpdF d o r g) : UpdF d o (p :: r) (fun o' => p :: g o') :=
  .tail (fun e => (List.nodup_cons.mp nd).1 (by show p.1 ∈ _; rw [e]; exact List.mem_map_of_mem (f := (·.1)) hm)) k
/-- a dict of names, all said -/
structure AD (fs : List (Str × Value)) (es : List DictEntry) : Prop where
  noref : es.any (·.refKey) = false
  get : ∀ y, getL y es = some (fs.lookup y)
  len : es.length ≤ fs.length
theorem AD.nil : AD [] [] := ⟨rfl, fun _ => rfl, Nat.le_refl _⟩
theorem AD.put {fs : List (Str × Value)} {es : List DictEntry} {x : Str} {h : Int} {t : Tok} {v : Value} (D : AD fs es) : AD ((x, v) :: fs) (putL x h (.str x t) v es) := by
  refine ⟨noref_put D.noref, fun y => ?_, Nat.le_trans len_put (Nat.succ_le_succ D.len)⟩
  rw [getL_put D.noref, List.lookup_cons]
  by_cases e : y = x
  · subst e; simp
  · rw [if_neg e, D.get, show (y == x) = false from by simpa using e]
section
variable {prog : Program} {w : World} {A : Around} {E : Value → Shared → Prop} {s : Shared} {h₀ : Heap} {L x dx C : Addr} {m : Str → Option Value} {news : List (Addr × Obj)} {fs : List (Str × Value)} {es : List DictEntry} {n : Nat} {v : Value} {name : Str} {g : Obj → List (Addr × Obj)}
theorem a_set {Q : Unit → Shared → Prop} (F : Fr h₀ L s.heap m) (X : (Mine.hd.heap_39 w.params).In h₀) (N : News h₀ L s.heap news) (hx : (x, instObj C dx) ∈ news) (hd : (dx, dictOf es n) ∈ news) (D : AD fs es) (U : UpdF dx (dictOf es n) news g) (nd : (adrs news).Nodup) (hl : fs.length ≤ 100)
    (hs : findIn (Mine.hd.heap_39 w.params) (.ref C) "__setattr__" = some (some (.builtin "object.__setattr__"))) (hp : plainOver (Mine.hd.heap_39 w.params) C = true) (ht : takerIn (Mine.hd.heap_39 w.params) C name = some none) (hh : hasDictIn (Mine.hd.heap_39 w.params) C = true)
    (h : ∀ h' es' n', AD ((name, v) :: fs) es' → Fr h₀ L h' m → News h₀ L h' (g (dictOf es' n')) → (adrs (g (dictOf es' n'))).Nodup → Q () { s with heap := h', toks := s.toks + 2 }) :
    wpAny (model prog w) A (setAttr (.ref x) name v) Q E s :=
  set_dict F X N (InstAt.of_news N hx hd) rfl hs hp ht hh (by rw [getL_of D.noref]; rfl) rfl (upd_of U _) (by have := len_put (x := name) (h := PyData.keyHash w.params name) (k := .str name (s.toks + 1)) (v := v) (es := es); have := D.len; omega)
    fun h' F' N' => h h' _ _ D.put F' N' (by rw [updF_adrs U]; exact nd)
end
/-- the addresses of what __init__ lays beside -/
structure SA where
  rR : Addr
  rV : Addr
  bc : Addr
  ac : Addr
  ba : Addr
  aa : Addr
  ws : Addr
  wd : Addr
  wl : Addr
  wes : List DictEntry
  wn : Nat
abbrev SA.wset (a : SA) : List (Addr × Obj) := [(a.ws, instObj 143 a.wd), (a.wd, dictOf a.wes a.wn), (a.wl, listOf #[] 0)]
abbrev SA.led (a : SA) : List (Addr × Obj) := (a.rR, listOf #[] 0) :: (a.rV, listOf #[] 0) :: (a.bc, listOf #[] 0) :: (a.ac, listOf #[] 0) :: (a.ba, listOf #[] 0) :: (a.aa, listOf #[] 0) :: a.wset
/-- what stands as __init__ has laid it: f the names -/
structure Stat (f : Str → Option (Option Value)) (a : SA) : Prop where
  status : f "status" = some (some (.str (Str.ofString "Active") 381))
  manager : f "_manager" = some (some .none)
  failure : ∃ v, f "_failure_traceback" = some (some v)
  adapters : ∃ v, f "_adapters" = some (some v)
  resources : f "_resources" = some (some (.ref a.rR))
  voted : f "_voted" = some (some (.ref a.rV))
  bc : f "_before_commit" = some (some (.ref a.bc))
  ac : f "_after_commit" = some (some (.ref a.ac))
  ba : f "_before_abort" = some (some (.ref a.ba))
  aa : f "_after_abort" = some (some (.ref a.aa))
  syn : f "_synchronizers" = some (some (.ref a.ws))
  wad : AD [(Str.ofString "data", .ref a.wl)] a.wes
def NewT (w : World) (news l : List (Addr × Obj)) (x : Addr) : Prop :=
  ∃ dx ea eo a f es n, l = (x, instObj 522 dx) :: (dx, dictOf es n) :: (ea, eo) :: (a.led ++ news) ∧ TD f es (.ref ea) (Str.ofString "") (Str.ofString "") ∧ eo.IsDictOf (strKind PR w) [] ∧ (ea == sysModules) = false ∧ Stat f a ∧ (adrs l).Nodup
local macro_rules | `(tactic| walk_at "mBind") => `(tactic| (refine' binds_K ?x1 ?x2 ?x3 ?x4 ?x5 ?x6; (case x1 => k_in); (case x2 => rfl); (case x3 => k_is); (case x4 => rfl); (case x5 => rfl); (case x6 => rfl)))
local macro_rules | `(tactic| walk_at "mBind") => `(tactic| exact BindsTo.of_eq rfl)
local macro_rules | `(tactic| walk_at "mA") => `(tactic| with_reducible assumption)
local macro_rules | `(tactic| walk_at "mK") => `(tactic| first | with_reducible assumption | rfl)
local macro_rules | `(tactic| walk_at "mM") => `(tactic| first | with_reducible assumption | with_reducible exact List.mem_cons_self | (with_reducible refine List.mem_cons_of_mem _ ?_; walk_at "mM") | (with_reducible refine List.mem_append_right _ ?_; walk_at "mM"))
theorem upd_tl2 {p : Addr × Obj} {d : Addr} {o : Obj} {r : List (Addr × Obj)} {g : Obj → List (Addr × Obj)} (nd : (adrs (p :: r)).Nodup) (hm : (d, o) ∈ r) (k : (adrs r).Nodup → UpdF d o r g) : UpdF d o (p :: r) (fun o' => p :: g o') :=
  upd_tl nd hm (k (nd_tl nd))
local macro_rules | `(tactic| walk_at "mU") => `(tactic| first | with_reducible exact upd_hd (by with_reducible assumption) | (with_reducible refine' upd_tl2 ?u1 ?u2 ?u3; (case u2 => walk_at "mM"); (case u1 => with_reducible assumption); (case u3 => intro nd8; walk_at "mU")))
local macro_rules | `(tactic| walk_at "mND") => `(tactic| first | with_reducible assumption | k_dflt decide)
local macro_rules | `(tactic| walk_at "newList") => `(tactic| (k_here; k_dflt (refine' m_list ?k1 ?k2 ?k3 ?_; (case k1 => walk_at "mA"); (case k2 => walk_at "mA"); (case k3 => walk_at "mND")); intro l9 h9 F9 N9 nd9))
local macro_rules | `(tactic| walk_at "eval Dict nil nil") => `(tactic| (k_here; k_dflt (refine' m_dict0 ?k1 ?k2 ?k3 ?k4 ?_; (case k1 => walk_at "mA"); (case k2 => walk_at "mA"); (case k3 => exact Top.nolimit (by walk_at "mA")); (case k4 => walk_at "mND")); intro d9 h9 o9 F9 N9 nd9 sm9 hd9))
local macro_rules | `(tactic| walk_at "mHU") => `(tactic| first | decide | exact Nat.le_of_ble_eq_true rfl)
local macro_rules | `(tactic| walk_at "setAttr ref") => `(tactic| (k_here; (with_reducible show wpAny _ _ (setAttr (Value.ref _) _ _) _ _ _); k_dflt (refine' a_set ?k1 ?k2 ?k3 ?k4 ?k5 ?k6 ?k7 ?k8 ?k9 ?ka ?kb ?kc ?kd ?_; (case k1 => walk_at "mA"); (case k2 => walk_at "mA"); (case k3 => walk_at "mA"); (case k4 => walk_at "mM"); (case k5 => walk_at "mM"); (case k6 => walk_at "mA"); (case k7 => walk_at "mU"); (case k8 => walk_at "mA"); (case k9 => exact Nat.le_of_ble_eq_true rfl); (case ka => k_is); (case kb => k_is); (case kc => k_is); (case kd => k_is)); intro h9 es9 n9 D9 F9 N9 nd9; (try dsimp only at N9 nd9)))
section
variable {w : World} {x dx : Addr} {rest : List (Addr × Obj)} {o : Obj}
theorem ct_winit (D : AD [] []) (nd : (adrs ((x, instObj 143 dx) :: (dx, dictOf [] 0) :: rest)).Nodup) : Ct w 1 93 [.ref x] ((x, instObj 143 dx) :: (dx, dictOf [] 0) :: rest) fun r l => r = .none ∧ ∃ wl es n, l = (wl, listOf #[] 0) :: (x, instObj 143 dx) :: (dx, dictOf es n) :: rest ∧ AD [(Str.ofString "data", .ref wl)] es ∧ (adrs l).Nodup := by
  unfold Ct
  intros
  rename_i hret
  k_dflt (refine' code_def (binds := [(Str.ofString "self", .ref x)]) ?k1 ?k2 ?k3 ?k4 ?k5 ?kA ?kF ?kK ?k6 ?k7 ?k8 ?k9 ?kB ?_ ?c2 ?c3 ?c4 ?c5; (case kA => exact rfl); (case kF => exact rfl); (case kK => assumption); (case k1 => k_asm); (case k2 => k_asm); (case k3 => k_asm); (case k4 => k_asm); (case k5 => k_asm); (case k6 => k_is); (case k7 => k_is); (case k8 => ktr_room); (case k9 => walk_at "mBind"); (case c5 => decide); (case kB => exact locs rfl); (case c2 => exact rfl); (case c3 => exact rfl); (case c4 => exact rfl); k_whole; intro g' L' h' FG' F' N' B' X' T'; (try dsimp only); (try simp only [List.reverse_cons, List.reverse_nil, List.nil_append, List.cons_append] at F'); (try k_fold))
  k_steps
  exact hret _ _ _ _ ⟨rfl, _, _, _, rfl, by assumption, by assumption⟩ (by assumption) (by assumption)
end
section
variable {w : World} {news : List (Addr × Obj)} {p : Program} {loose : List Str} {mean : ExcName → Option Value} {mg mb : Str → Option Value} {dp un : Nat} {gd : Option (List Code)} {cn : Str} {cs : Scope} {a : Addr} {ccd : Value} {cl : List (Str × Addr)} {outer : List Env}
    {A₀ : Around} {base h₀ : Heap} {L : Addr} {m : Str → Option Value} {s : Shared} {E : Value → Shared → Prop}
theorem s_weak (B : Below A₀ base outer h₀) (F : Fr h₀ L s.heap m) (X : (Mine.hd.heap_39 w.params).In h₀) (N : News h₀ L s.heap news) (T' : Top p loose mean mg mb h₀) (hk : cs.kind = .function) (hd' : dp + 1 + 2 * 1 < recursionLimit) (hu : un + 1 + 10 * 1 < cLine) (nd : (adrs news).Nodup)
    {Q : Value → Shared → Prop} (h : ∀ (x dx wl : Addr) (es : List DictEntry) (n : Nat) (h' : Heap) (tk' : Nat), AD [(Str.ofString "data", .ref wl)] es → Fr h₀ L h' m → News h₀ L h' ((wl, listOf #[] 0) :: (x, instObj 143 dx) :: (dx, dictOf es n) :: news) → (adrs ((wl, listOf #[] 0) :: (x, instObj 143 dx) :: (dx, dictOf es n) :: news)).Nodup → Q (.ref x) { s with heap := h', toks := tk' }) :
    wpAny (model PR w) (ktrTop dp un gd cn cs L a ccd cl outer) (call (.ref 143) []) Q E s :=
  call_cls (fI := 93) F X N (by k_is) (by k_is) (by k_is) fun x dx h' F' N' l1 l2 => by
    have nd1 : (adrs ((x, instObj 143 dx) :: (dx, dictOf [] 0) :: news)).Nodup := nd_cons (fun p hp => by
      rcases List.mem_cons.mp hp with rfl | hp
      · exact l2
      · exact Nat.lt_trans (l1 p hp) l2) (nd_cons l1 nd)
    rw [show (ktrTop dp un gd cn cs L a ccd cl outer).under (Code.builtin "type.__call__" ⟨.ref 143 :: [], []⟩) = ktrTop (dp + 1) (un + 1) gd cn cs L a ccd cl outer from by kernel_rfl]
    exact codeAny_mono (ct_winit AD.nil nd1 p loose mean mg mb (dp + 1) (un + 1) gd cn cs a ccd cl outer A₀ base h₀ L m { s with heap := h' } (fun v s' => v = .none ∧ Q (.ref x) s') E B F' X N' T' hk (by omega) (by omega) (by
      rintro v l hh tk ⟨rfl, wl, es, n, rfl, D, nd2⟩ F2 N2
      exact ⟨rfl, h x dx wl es n hh tk D F2 N2 nd2⟩)) fun r s' z => by
        rcases r with e | (v | _ | _ | _)
        · exact z
        · exact z.elim
        · exact z.elim
        · exact z.elim
        · exact z
end
local macro_rules | `(tactic| walk_at "call ref") => `(tactic| (k_here; (with_reducible show wpAny _ _ (PySem.call (Value.ref 143) _ _) _ _ _); k_dflt (refine' s_weak ?k1 ?k2 ?k3 ?k4 ?k5 ?k6 ?k7 ?k8 ?k9 ?_; (case k1 => walk_at "mA"); (case k2 => walk_at "mA"); (case k3 => walk_at "mA"); (case k4 => walk_at "mA"); (case k5 => walk_at "mA"); (case k6 => walk_at "mK"); (case k7 => ktr_room); (case k8 => ktr_units); (case k9 => walk_at "mA")); intro x9 dx9 wl9 wes9 wn9 h9 tk9 W9 F9 N9 nd9))
section
variable {w : World} {x dx : Addr} {rest : List (Addr × Obj)}
abbrev fs12 (aa ba ac bc e rV ad ws rR : Addr) : List (Str × Value) := [(Str.ofString "_after_abort", .ref aa), (Str.ofString "_before_abort", .ref ba), (Str.ofString "_after_commit", .ref ac), (Str.ofString "_before_commit", .ref bc), (Str.ofString "_failure_traceback", .none), (Str.ofString "extension", .ref e), (Str.ofString "_voted", .ref rV), (Str.ofString "_adapters", .ref ad), (Str.ofString "_manager", .none), (Str.ofString "_synchronizers", .ref ws), (Str.ofString "_resources", .ref rR), (Str.ofString "status", .str (Str.ofString "Active") 381)]
theorem ct_init (D : AD [] []) (nd : (adrs ((x, instObj 522 dx) :: (dx, dictOf [] 0) :: rest)).Nodup) : Ct w 3 207 [.ref x] ((x, instObj 522 dx) :: (dx, dictOf [] 0) :: rest) fun r l => r = .none ∧ ∃ (aa ba ac bc e rV ad wl ws wd rR : Addr) (oe oad : Obj) (wes es : List DictEntry) (wn n : Nat), l = (aa, listOf #[] 0) :: (ba, listOf #[] 0) :: (ac, listOf #[] 0) :: (bc, listOf #[] 0) :: (e, oe) :: (rV, listOf #[] 0) :: (ad, oad) :: (wl, listOf #[] 0) :: (ws, instObj 143 wd) :: (wd, dictOf wes wn) :: (rR, listOf #[] 0) :: (x, instObj 522 dx) :: (dx, dictOf es n) :: rest ∧
      AD (fs12 aa ba ac bc e rV ad ws rR) es ∧ oe.IsDictOf (strKind PR w) [] ∧ (e == sysModules) = false ∧ AD [(Str.ofString "data", .ref wl)] wes ∧ (adrs l).Nodup := by
  unfold Ct
  intros
  rename_i hret
  k_dflt (refine' code_def (binds := [(Str.ofString "self", .ref x), (Str.ofString "synchronizers", Value.none), (Str.ofString "manager", Value.none)]) ?k1 ?k2 ?k3 ?k4 ?k5 ?kA ?kF ?kK ?k6 ?k7 ?k8 ?k9 ?kB ?_ ?c2 ?c3 ?c4 ?c5; (case kA => exact rfl); (case kF => exact rfl); (case kK => assumption); (case k1 => k_asm); (case k2 => k_asm); (case k3 => k_asm); (case k4 => k_asm); (case k5 => k_asm); (case k6 => k_is); (case k7 => k_is); (case k8 => ktr_room); (case k9 => (refine' binds_K (by k_in) ?x2 ?x3 ?x4 ?x5 ?x6; (case x2 => rfl); (case x3 => k_is); (case x4 => rfl); (case x5 => rfl); (case x6 => rfl))); (case c5 => decide); (case kB => exact locs rfl); (case c2 => exact rfl); (case c3 => exact rfl); (case c4 => exact rfl); k_whole; intro g' L' h' FG' F' N' B' X' T'; (try dsimp only); (try simp only [List.reverse_cons, List.reverse_nil, List.nil_append, List.cons_append] at F'); (try k_fold))
  k_steps
  exact hret _ _ _ _ ⟨rfl, _, _, _, _, _, _, _, _, _, _, _, _, _, _, _, _, _, rfl, by assumption, by assumption, by assumption, by assumption, by assumption⟩ (by assumption) (by assumption)
end
theorem AD.td {aa ba ac bc e rV ad ws rR : Addr} {es : List DictEntry} (D : AD (fs12 aa ba ac bc e rV ad ws rR) es) : TD (fun y => some ((fs12 aa ba ac bc e rV ad ws rR).lookup y)) es (.ref e) (Str.ofString "") (Str.ofString "") := by
  refine ⟨D.noref, (D.get _).trans rfl, .inl ⟨(D.get _).trans rfl, rfl⟩, .inl ⟨(D.get _).trans rfl, rfl⟩, fun y _ _ _ => D.get y, fun y hy => ?_, ?_⟩
  · rw [D.get y]
    unfold methNames at hy
    simp only [List.contains_cons, List.contains_nil, Bool.or_eq_true, Bool.or_false, beq_iff_eq] at hy
    rcases hy with rfl | rfl | rfl | rfl | rfl | rfl | rfl | rfl | rfl | rfl | rfl | rfl | rfl | rfl | rfl | rfl | rfl | rfl | rfl | rfl | rfl <;> rfl
  · have := D.len
    have hu : getL sUser es = some none := (D.get _).trans rfl
    have hd : getL sDesc es = some none := (D.get _).trans rfl
    rw [if_pos hu, if_pos hd]
    simp only [fs12, List.length_cons, List.length_nil] at this
    omega
theorem AD.stat {aa ba ac bc e rV ad ws wd wl rR : Addr} {wes : List DictEntry} {wn : Nat} (W : AD [(Str.ofString "data", .ref wl)] wes) : Stat (fun y => some ((fs12 aa ba ac bc e rV ad ws rR).lookup y)) ⟨rR, rV, bc, ac, ba, aa, ws, wd, wl, wes, wn⟩ :=
  ⟨rfl, rfl, ⟨_, rfl⟩, ⟨_, rfl⟩, rfl, rfl, rfl, rfl, rfl, rfl, rfl, W⟩
section
variable {w : World} {news : List (Addr × Obj)} {p : Program} {loose : List Str} {mean : ExcName → Option Value} {mg mb : Str → Option Value} {dp un : Nat} {gd : Option (List Code)} {cn : Str} {cs : Scope} {a : Addr} {ccd : Value} {cl : List (Str × Addr)} {outer : List Env}
    {A₀ : Around} {base h₀ : Heap} {L : Addr} {m : Str → Option Value} {s : Shared} {E : Value → Shared → Prop}
theorem s_new (B : Below A₀ base outer h₀) (F : Fr h₀ L s.heap m) (X : (Mine.hd.heap_39 w.params).In h₀) (N : News h₀ L s.heap news) (T' : Top p loose mean mg mb h₀) (hk : cs.kind = .function) (hd' : dp + 20 < recursionLimit) (hu : un + 100 < cLine) (nd : (adrs news).Nodup)
    {Q : Value → Shared → Prop} (h : ∀ (x dx ea : Addr) (eo : Obj) (st : SA) (f : Str → Option (Option Value)) (es : List DictEntry) (n : Nat) (h' : Heap) (tk' : Nat), TD f es (.ref ea) (Str.ofString "") (Str.ofString "") → eo.IsDictOf (strKind PR w) [] → (ea == sysModules) = false → Stat f st → Fr h₀ L h' m → News h₀ L h' ((x, instObj 522 dx) :: (dx, dictOf es n) :: (ea, eo) :: (st.led ++ news)) → (adrs ((x, instObj 522 dx) :: (dx, dictOf es n) :: (ea, eo) :: (st.led ++ news))).Nodup → Q (.ref x) { s with heap := h', toks := tk' }) :
    wpAny (model PR w) (ktrTop dp un gd cn cs L a ccd cl outer) (call (.ref 522) []) Q E s :=
  call_cls (fI := 207) F X N (by k_is) (by k_is) (by k_is) fun x dx h' F' N' l1 l2 => by
    have nd1 : (adrs ((x, instObj 522 dx) :: (dx, dictOf [] 0) :: news)).Nodup := nd_cons (fun p hp => by
      rcases List.mem_cons.mp hp with rfl | hp
      · exact l2
      · exact Nat.lt_trans (l1 p hp) l2) (nd_cons l1 nd)
    rw [show (ktrTop dp un gd cn cs L a ccd cl outer).under (Code.builtin "type.__call__" ⟨.ref 522 :: [], []⟩) = ktrTop (dp + 1) (un + 1) gd cn cs L a ccd cl outer from by kernel_rfl]
    exact codeAny_mono (ct_init AD.nil nd1 p loose mean mg mb (dp + 1) (un + 1) gd cn cs a ccd cl outer A₀ base h₀ L m { s with heap := h' } (fun v s' => v = .none ∧ Q (.ref x) s') E B F' X N' T' hk (by omega) (by omega) (by
      rintro v l hh tk ⟨rfl, aa, ba, ac, bc, e, rV, ad, wl, ws, wd, rR, oe, oad, wes, es, wn, n, rfl, D, ho, hs, W, nd2⟩ F2 N2
      have P : ((aa, listOf #[] 0) :: (ba, listOf #[] 0) :: (ac, listOf #[] 0) :: (bc, listOf #[] 0) :: (e, oe) :: (rV, listOf #[] 0) :: (ad, oad) :: (wl, listOf #[] 0) :: (ws, instObj 143 wd) :: (wd, dictOf wes wn) :: (rR, listOf #[] 0) :: (x, instObj 522 dx) :: (dx, dictOf es n) :: news).Perm ((ad, oad) :: ((x, instObj 522 dx) :: (dx, dictOf es n) :: (e, oe) :: ((SA.mk rR rV bc ac ba aa ws wd wl wes wn).led ++ news))) := by
        haveI : DecidableEq (Addr × Obj) := fun _ _ => Classical.propDecidable _
        refine List.perm_iff_count.mpr fun a => ?_
        simp only [SA.led, SA.wset, List.count_cons, List.cons_append, List.nil_append]
        omega
      refine ⟨rfl, h x dx e oe ⟨rR, rV, bc, ac, ba, aa, ws, wd, wl, wes, wn⟩ _ es n hh tk D.td ho hs (AD.stat W) F2 (fun p hp => N2 p (P.mem_iff.mpr (.tail _ hp))) (List.nodup_cons.mp (((P.map (·.1)).nodup_iff).mp nd2)).2⟩)) fun r s' z => by
        rcases r with e | (v | _ | _ | _)
        · exact z
        · exact z.elim
        · exact z.elim
        · exact z.elim
        · exact z
end

end Mine
/- part XA -/
set_option Elab.async false
set_option maxRecDepth 100000
set_option maxHeartbeats 2000000
namespace Mine
theorem fill_XA : PySem.Challenge.rw_ft5041_01 = PySem.Challenge.rw_ft5041_01 ∧ Mine.hd.heap_39 = Mine.hd.heap_39 := by
  k_fill
  exact ⟨rfl, rfl⟩
section
variable {prog : Program} {w : World} {M : Model} {A : Around} {E : Value → Shared → Prop} {s : Shared} {h₀ : Heap} {L a : Addr} {m : Str → Option Value} {news : List (Addr × Obj)}
theorem s_sort0 {q : Addr} {n : Nat} {Q : Value → Shared → Prop} (F : Fr h₀ L s.heap m) (N : News h₀ L s.heap ((a, listOf #[] n) :: news)) (nd : (adrs ((a, listOf #[] n) :: news)).Nodup)
    (h : ∀ h' tk c, Fr h₀ L h' m → News h₀ L h' ((a, listOf #[] c) :: news) → (adrs ((a, listOf #[] c) :: news)).Nodup → Q .none { s with heap := h', toks := tk }) :
    wpAny (model prog w) A (call (.builtin "list.sort") [.ref a] [(Str.ofString "key", .ref q)]) Q E s := by
  have z := N _ (.head _)
  refine wpAny_call_entry_kw slot_list_sort ⟨_, z.1, rfl⟩ entry_list_sort ?_ (ksk_l1 _ _)
  rw [ksk_t1]
  refine ksk_sort (kz := []) (vs := []) F (fun p hp => N p (.tail _ hp)) z.1 z.2.1 z.2.2 (nd_head nd) rfl (by decide) (fun i v k hv _ => by simp at hv) fun h' tk out c F' N' ko => ?_
  obtain ⟨ps, hp, ho, _⟩ := ko
  have e : out = #[] := by
    have := hp.length_eq
    have hps : ps = [] := List.length_eq_zero_iff.mp (by simpa using this)
    rw [hps] at ho
    simpa using ho
  subst e
  exact ⟨_, rfl, h h' tk c F' N' nd⟩
abbrev sliceO : Obj := { cls := .type "slice", data := .fields #[.none, .none, .none] }
theorem m_slice {env : Env} {p : Pos} {Q : Value → Shared → Prop} (F : Fr h₀ L s.heap m) (N : News h₀ L s.heap news) (nd : (adrs news).Nodup)
    (h : ∀ sl h', Fr h₀ L h' m → News h₀ L h' ((sl, sliceO) :: news) → (adrs ((sl, sliceO) :: news)).Nodup → Q (.ref sl) { s with heap := h' }) : wpAny M A (eval (.Slice none none none p) env) Q E s := by
  refine wpAny_Slice ?_
  refine wpAny_pure (wpAny_pure (wpAny_pure ?_))
  exact h _ _ (F.push _) (N.push F _) (nd_cons (fun p hp => Heap.lt_size (N p hp).1) nd)
theorem meets_delall {l sl : Addr} {n : Nat} : Meets (Builtin.«list.__delitem__» ⟨[.ref l, .ref sl], []⟩) (fun _ R s => s.heap.get? l = some (listOf #[] n) ∧ s.heap.get? sl = some sliceO ∧ ∀ h', Heap.SameBut l s.heap h' → (∃ c, h'.get? l = some (listOf #[] c)) → R (.ok (.ret .none)) { s with heap := h' }) := by
  refine .of_wp fun prog w A R s hS => ?_
  obtain ⟨hl, hs, h⟩ := hS
  have hT : s.TypeIs (.ref sl) "slice" := ⟨_, hs, rfl⟩
  unfold Builtin.«list.__delitem__»
  refine wpAny_bind (wpAny_of_eq (a := (.ref l, [.ref sl])) rfl ?_)
  dsimp only
  refine wpAny_bind ?_
  unfold Builtin.List.listSubscript?
  refine wpAny_bind (wpAny_specialOf hT (r := none) (by rw [typeLookup_type, builtinLookup_eq_fast]; kernel_rfl) ?_)
  rw [if_pos (show (none : Option Value).isNone = true from rfl)]
  refine wpAny_pure ?_
  dsimp only
  refine wpAny_bind (wpAny_typeOf hT ?_)
  rw [if_neg (by decide)]
  refine wpAny_bind ?_
  unfold Builtin.List.listSliceParts
  dsimp only
  refine wpAny_bind (wpAny_field hs rfl rfl ?_)
  refine wpAny_bind (wpAny_of_eq (a := Value.none) rfl ?_)
  rw [if_neg (by decide)]
  refine wpAny_bind (wpAny_field hs rfl rfl ?_)
  refine wpAny_bind (wpAny_of_eq (a := Value.none) rfl ?_)
  refine wpAny_bind (wpAny_field hs rfl rfl ?_)
  refine wpAny_bind (wpAny_of_eq (a := Value.none) rfl ?_)
  refine wpAny_pure ?_
  dsimp only
  refine wpAny_bind (listItems_at hl rfl ?_)
  refine wpAny_bind (wpAny_of_eq (a := ((0, 0, 1) : Int × Int × Int)) (by kernel_rfl) ?_)
  refine wpAny_bind (wpAny_rule ?_)
  refine wpAny_bind (listUpdate_at hl rfl ?_ (Nat.zero_le _) (Nat.zero_le _))
  refine wpAny_bind (wpAny_letGo ?_)
  exact wpAny_pure ⟨_, rfl, h _ (Heap.SameBut.update ..) ⟨_, get?_update_seq hl _⟩⟩
theorem m_delAll {l sl : Addr} {n : Nat} {g : Obj → List (Addr × Obj)} {Q : Unit → Shared → Prop} (F : Fr h₀ L s.heap m) (N : News h₀ L s.heap news) (hl : (l, listOf #[] n) ∈ news) (hs : (sl, sliceO) ∈ news) (U : UpdF l (listOf #[] n) news g) (nd : (adrs news).Nodup)
    (h : ∀ h' c, Fr h₀ L h' m → News h₀ L h' (g (listOf #[] c)) → (adrs (g (listOf #[] c))).Nodup → Q () { s with heap := h' }) : wpAny (model prog w) A (delItem (.ref l) (.ref sl)) Q E s := by
  have z := N _ hl
  have hT : s.TypeIs (.ref l) "list" := ⟨_, z.1, rfl⟩
  refine wpAny_delItem_slot hT (by decide) PySem.F.slot_list_delitem (call_meets PySem.F.slot_list_delitem hT PySem.F.entry_list_delitem (PySem.F.args_list_delitem_2 _ _) meets_delall ⟨z.1, (N _ hs).1, fun h' hb hc => ?_⟩)
  obtain ⟨c, hc⟩ := hc
  obtain ⟨pre, post, rfl, hg, h1, h2⟩ := U.split
  exact h h' c (F.change hb z.2.1 z.2.2) (hg _ ▸ N.setIn h1 h2 hb hc) (by rw [updF_adrs U]; exact nd)
end
theorem kind_has : builtinKind "hasattr" = none := by decide +kernel
theorem plain_has : plainId "hasattr" = true := by decide +kernel
theorem entry_has : entryFor table "hasattr" = some Builtin.«hasattr» := entryFor_of_tree (by kernel_rfl)
theorem args_has (a b : Value) : argsOk "hasattr" ⟨[a, b], []⟩ := by unfold argsOk; kernel_rfl
theorem cls_name {w : World} : (clsIn (Mine.hd.heap_39 w.params) 522).map (·.name) = some (Str.ofString "Transaction") := by kernel_rfl
theorem find_miss {w : World} {es : List DictEntry} {n : Nat} (hl : getL (Str.ofString "_data") es = some none) : findObj (Mine.hd.heap_39 w.params) 522 (some (dictOf es n)) (Str.ofString "_data") = some .missing := by
  have hh : hasDictIn (Mine.hd.heap_39 w.params) 522 = true := by k_is
  have ha : findIn (Mine.hd.heap_39 w.params) (.ref 522) (Str.ofString "_data") = some none := by k_is
  obtain ⟨cd, hc, hd⟩ := any_some hh
  unfold findObj
  have ho : ownOf cd (some (dictOf es n)) (Str.ofString "_data") = some none := by unfold PySem.W.ownOf; rw [if_pos hd]; exact (lookIn_dict ..).trans hl
  rw [hc, Option.bind_some, ha, Option.bind_some]
  have hcop : copiedNames.contains (Str.ofString "_data") = false := by decide +kernel
  simp only [Option.bind_some, ho, hcop, Bool.false_and, Bool.false_eq_true, if_false]
section
variable {w : World} {A : Around} {E : Value → Shared → Prop} {s : Shared} {h₀ : Heap} {L x dx : Addr} {m : Str → Option Value} {news : List (Addr × Obj)} {es : List DictEntry} {n : Nat} {t : Tok}
theorem s_hasattr {Q : Value → Shared → Prop} (hA : A.handled = none) (F : Fr h₀ L s.heap m) (X₀ : (Mine.hd.heap_39 w.params).In h₀) (N : News h₀ L s.heap news) (hx : (x, instObj 522 dx) ∈ news) (hd : (dx, dictOf es n) ∈ news) (hl : getL (Str.ofString "_data") es = some none)
    (h : ∀ h' tk, Fr h₀ L h' m → News h₀ L h' news → Q (.bool false) { s with heap := h', toks := tk }) :
    wpAny (model PR w) A (call (.builtin "hasattr") [.ref x, .str (Str.ofString "_data") t]) Q E s := by
  have X := X₀.keeps F.keep
  have I := InstAt.of_news N hx hd
  have L0 := I.type (M := model PR w)
  have LM : Looks (model PR w) s.heap (isInstance (.ref x) (.type "module")) false := L0.andThen (looks_mroIn X (by k_is))
  refine call_function_entry kind_has plain_has entry_has (args_has _ _) ?_
  obtain ⟨hp, g, d, tk, os⟩ := s
  unfold Builtin.«hasattr»
  refine wpAny_bind (wpAny_of_eq (a := [.ref x, .str (Str.ofString "_data") t]) rfl ?_)
  dsimp only
  refine wpAny_bind (wpAny_of_eq (a := ()) rfl ?_)
  rw [if_neg (by exact Bool.false_ne_true)]
  refine wpAny_bind (L0.at ?_)
  dsimp only
  refine wpAny_bind ?_
  wp_delta
  dsimp only
  refine wpAny_bind (wpAny_of_eq (a := some (Str.ofString "_data")) rfl ?_)
  dsimp only
  refine wpAny_bind (LM.at ?_)
  rw [if_pos (by decide)]
  refine wpAny_pure ?_
  rw [if_neg (by decide)]
  have Lf := looks_find (M := model PR w) X I (find_miss hl)
  have Lg := looks_findIn (M := model PR w) X (show findIn (Mine.hd.heap_39 w.params) (.ref 522) (Str.ofString "__getattribute__") = some (some (.builtin "object.__getattribute__")) by k_is)
  have Lh := looks_findIn (M := model PR w) X (show findIn (Mine.hd.heap_39 w.params) (.ref 522) (Str.ofString "__getattr__") = some none by k_is)
  refine wpAny_bind ?_
  unfold getAttrBy? getAttrBy
  refine wpAny_bind (wpAny_attempt (wpAny_holding (wpAny_bind (L0.at (wpAny_bind (Lg.at ?_))))))
  show wpAny _ _ (getAttrEveryday _ _ _) _ _ _
  refine wpAny_bind (wpAny_onRaise (wpAny_runValue (codeAny_builtin PySem.F.plainObj_entry_getattr_hooked ?_)))
  refine wpAny_bind (wpAny_pure (wpAny_bind (L0.at (wpAny_bind (Lf.at (wpAny_bind (Lh.at ?_)))))))
  show wpAny _ _ (PySem.Builtin.ObjectAttr.noSuchAttribute _ _) _ _ _
  unfold PySem.Builtin.ObjectAttr.noSuchAttribute
  have LN : Looks (model PR w) hp (typeNameOfCut 100 (.ref x)) (Str.ofString "Transaction").toString := by
    obtain ⟨cd, hc, hn⟩ := Option.map_eq_some_iff.mp (cls_name (w := w))
    have hn : cd.name = Str.ofString "Transaction" := hn
    unfold typeNameOfCut shownTypeOf
    refine Looks.andThen (a := .ref 522) (Looks.andThen L0 ?_) ?_
    · rw [if_neg (by decide)]
      exact Looks.now
    · unfold typeNameCut
      refine (looks_clsIn X hc).andThen ?_
      rw [hn, if_pos (by decide +kernel)]
      exact Looks.now
  refine wpAny_bind (LN.at ?_)
  refine wpAny_raiseAttrError (by show A.handled = none; exact hA) (fun h' tk' e ne => ?_) (by decide +kernel)
  dsimp only
  refine wpAny_pure ?_
  obtain ⟨tt, uu, he⟩ := ne.there
  refine wpAny_bind (wpAny_isInstance (v := .ref e) (T := "AttributeError") ⟨_, he, rfl⟩ sub_AttributeError ?_)
  rw [if_pos rfl]
  refine wpAny_pure ?_
  rw [if_neg (by decide)]
  exact wpAny_pure ⟨_, rfl, h h' tk' (F.keeps ne.keeps) (N.keeps ne.keeps)⟩
end
end Mine
/- part CM -/
set_option Elab.async false
set_option maxRecDepth 100000
set_option maxHeartbeats 8000000
namespace Mine
theorem fill_aCM : PySem.Challenge.rw_ft5041_01 = PySem.Challenge.rw_ft5041_01 ∧ Mine.hd.heap_39 = Mine.hd.heap_39 := by
  k_fill
  exact ⟨rfl, rfl⟩
/-- what of the names the ends of a transaction read, but the status -/
structure St2 (f : Str → Option (Option Value)) (a : SA) : Prop where
  manager : f (Str.ofString "_manager") = some (some .none)
  adapters : ∃ v, f (Str.ofString "_adapters") = some (some v)
  resources : f (Str.ofString "_resources") = some (some (.ref a.rR))
  voted : f (Str.ofString "_voted") = some (some (.ref a.rV))
  bc : f (Str.ofString "_before_commit") = some (some (.ref a.bc))
  ac : f (Str.ofString "_after_commit") = some (some (.ref a.ac))
  ba : f (Str.ofString "_before_abort") = some (some (.ref a.ba))
  aa : f (Str.ofString "_after_abort") = some (some (.ref a.aa))
  syn : f (Str.ofString "_synchronizers") = some (some (.ref a.ws))
  wad : AD [(Str.ofString "data", .ref a.wl)] a.wes
theorem Stat.st2 {f : Str → Option (Option Value)} {a : SA} (S : Stat f a) : St2 f a := ⟨S.manager, S.adapters, S.resources, S.voted, S.bc, S.ac, S.ba, S.aa, S.syn, S.wad⟩
theorem St2.ad {f : Str → Option (Option Value)} {a : SA} (S : St2 f a) : f (Str.ofString "_adapters") = some (some S.adapters.choose) := S.adapters.choose_spec
theorem St2.status {f : Str → Option (Option Value)} {a : SA} {v : Option (Option Value)} (S : St2 f a) : St2 (fun y => if y = Str.ofString "status" then v else f y) a :=
  ⟨S.manager, S.adapters, S.resources, S.voted, S.bc, S.ac, S.ba, S.aa, S.syn, S.wad⟩
theorem TD.putO {f : Str → Option (Option Value)} {es : List DictEntry} {e old v : Value} {u d y0 : Str} {h : Int} {t : Tok} (T : TD f es e u d) (h0 : f y0 = some (some old)) (n1 : y0 ≠ sExt) (n2 : y0 ≠ sUser) (n3 : y0 ≠ sDesc) (hm : methNames.contains y0 = false) :
    TD (fun y => if y = y0 then some (some v) else f y) (putL y0 h (.str y0 t) v es) e u d := by
  have g : ∀ y, y ≠ y0 → getL y (putL y0 h (.str y0 t) v es) = getL y es := fun y hy => by rw [getL_put T.noref, if_neg hy]
  have h0' : getL y0 es = some (some old) := (T.rest _ n1 n2 n3).trans h0
  refine ⟨noref_put T.noref, by rw [g _ n1.symm]; exact T.ext, by rw [g _ n2.symm]; exact T.user, by rw [g _ n3.symm]; exact T.desc, fun y h1 h2 h3 => ?_, fun y hy => ?_, ?_⟩
  · by_cases q : y = y0
    · subst q; rw [getL_put T.noref, if_pos rfl, if_pos rfl]
    · rw [g _ q, if_neg q]; exact T.rest y h1 h2 h3
  · rw [g _ (fun q => by rw [q, hm] at hy; cases hy)]; exact T.meth y hy
  · rw [g _ n2.symm, g _ n3.symm, len_put_in h0']; exact T.len
theorem TD.congr {f f' : Str → Option (Option Value)} {es : List DictEntry} {e : Value} {u d : Str} (T : TD f es e u d) (h : ∀ y, f y = f' y) : TD f' es e u d :=
  ⟨T.noref, T.ext, T.user, T.desc, fun y h1 h2 h3 => (T.rest y h1 h2 h3).trans (h y), T.meth, T.len⟩
section
variable {prog : Program} {w : World} {A : Around} {E : Value → Shared → Prop} {s : Shared} {h₀ : Heap} {L x dx C : Addr} {m : Str → Option Value} {news : List (Addr × Obj)} {f : Str → Option (Option Value)} {fs : List (Str × Value)} {es : List DictEntry} {n : Nat} {e v old : Value} {u d name : Str} {g : Obj → List (Addr × Obj)} {expr : Bool}
theorem t_getL {Q : Value → Shared → Prop} {attr : Option Value} (F : Fr h₀ L s.heap m) (X : (Mine.hd.heap_39 w.params).In h₀) (N : News h₀ L s.heap news) (hx : (x, instObj 522 dx) ∈ news) (hd : (dx, dictOf es n) ∈ news) (T : TD f es e u d) (hl : f name = some (some v)) (n1 : name ≠ sExt) (n2 : name ≠ sUser) (n3 : name ≠ sDesc)
    (hg : plainGet (Mine.hd.heap_39 w.params) 522 name = true) (hh : hasDictIn (Mine.hd.heap_39 w.params) 522 = true) (ha : findIn (Mine.hd.heap_39 w.params) (.ref 522) name = some attr) (hn : noGet (Mine.hd.heap_39 w.params) attr = true) (hv : handedIn v = true) (h : Q v { s with toks := s.toks + 1 }) :
    wpAny (model prog w) A (getAttr (.ref x) name expr) Q E s :=
  get_own F X (InstAt.of_news N hx hd) hg hh ha hn ((T.rest _ n1 n2 n3).trans hl) hv h
theorem t_cls {Q : Value → Shared → Prop} (F : Fr h₀ L s.heap m) (X : (Mine.hd.heap_39 w.params).In h₀) (N : News h₀ L s.heap news) (hx : (x, instObj 522 dx) ∈ news) (hd : (dx, dictOf es n) ∈ news) (T : TD f es e u d) (h : Q .none { s with toks := s.toks + 1 }) :
    wpAny (model prog w) A (getAttr (.ref x) (Str.ofString "_savepoint2index") expr) Q E s :=
  get_cls F X (InstAt.of_news N hx hd) (by k_is) (by k_is) (by k_is) (by k_is) rfl (by decide +kernel) (T.meth _ (by decide +kernel)) h
theorem a_getL {Q : Value → Shared → Prop} {attr : Option Value} (F : Fr h₀ L s.heap m) (X : (Mine.hd.heap_39 w.params).In h₀) (N : News h₀ L s.heap news) (hx : (x, instObj 143 dx) ∈ news) (hd : (dx, dictOf es n) ∈ news) (D : AD fs es) (hl : fs.lookup name = some v)
    (hg : plainGet (Mine.hd.heap_39 w.params) 143 name = true) (hh : hasDictIn (Mine.hd.heap_39 w.params) 143 = true) (ha : findIn (Mine.hd.heap_39 w.params) (.ref 143) name = some attr) (hn : noGet (Mine.hd.heap_39 w.params) attr = true) (hv : handedIn v = true) (h : Q v { s with toks := s.toks + 1 }) :
    wpAny (model prog w) A (getAttr (.ref x) name expr) Q E s :=
  get_own F X (InstAt.of_news N hx hd) hg hh ha hn ((D.get _).trans (congrArg some hl)) hv h
theorem a_meth {fa : Addr} {pl : Sem Bool} {Q : Value × List Value → Shared → Prop} (F : Fr h₀ L s.heap m) (X : (Mine.hd.heap_39 w.params).In h₀) (N : News h₀ L s.heap news) (hx : (x, instObj 143 dx) ∈ news) (hd : (dx, dictOf es n) ∈ news) (D : AD fs es) (hl : fs.lookup name = none)
    (hg : plainGet (Mine.hd.heap_39 w.params) 143 name = true) (hf : findIn (Mine.hd.heap_39 w.params) (.ref 143) name = some (some (.ref fa))) (ht : isFn (Mine.hd.heap_39 w.params) (.ref fa) = true) (h : Q (.ref fa, [.ref x]) s) :
    wpAny (model prog w) A (getMethod (.ref x) name pl) Q E s :=
  method_inst F X (InstAt.of_news N hx hd) hg hf ht ((D.get _).trans (congrArg some hl)) h
theorem t_setL {Q : Unit → Shared → Prop} (F : Fr h₀ L s.heap m) (X : (Mine.hd.heap_39 w.params).In h₀) (N : News h₀ L s.heap news) (hx : (x, instObj 522 dx) ∈ news) (hd : (dx, dictOf es n) ∈ news) (T : TD f es e u d) (U : UpdF dx (dictOf es n) news g) (nd : (adrs news).Nodup) (hl : f name = some (some old)) (n1 : name ≠ sExt) (n2 : name ≠ sUser) (n3 : name ≠ sDesc) (hm : methNames.contains name = false)
    (hs : findIn (Mine.hd.heap_39 w.params) (.ref 522) "__setattr__" = some (some (.builtin "object.__setattr__"))) (hp : plainOver (Mine.hd.heap_39 w.params) 522 = true) (ht : takerIn (Mine.hd.heap_39 w.params) 522 name = some none) (hh : hasDictIn (Mine.hd.heap_39 w.params) 522 = true)
    (h : ∀ h' es' n', TD (fun y => if y = name then some (some v) else f y) es' e u d → Fr h₀ L h' m → News h₀ L h' (g (dictOf es' n')) → (adrs (g (dictOf es' n'))).Nodup → Q () { s with heap := h', toks := s.toks + 2 }) :
    wpAny (model prog w) A (setAttr (.ref x) name v) Q E s :=
  set_dict F X N (InstAt.of_news N hx hd) rfl hs hp ht hh (by rw [getL_of T.noref]; rfl) rfl (upd_of U _) (by have := len_put (x := name) (h := PyData.keyHash w.params name) (k := .str name (s.toks + 1)) (v := v) (es := es); have := T.small; omega)
    fun h' F' N' => h h' _ _ (T.putO hl n1 n2 n3 hm) F' N' (by rw [updF_adrs U]; exact nd)
theorem m_setExt {Q : Unit → Shared → Prop} (F : Fr h₀ L s.heap m) (X : (Mine.hd.heap_39 w.params).In h₀) (N : News h₀ L s.heap news) (hx : (x, instObj 522 dx) ∈ news) (hd : (dx, dictOf es n) ∈ news) (T : TD f es e u d) (U : UpdF dx (dictOf es n) news g) (nd : (adrs news).Nodup)
    (h : ∀ h' es' n', TD f es' v u d → Fr h₀ L h' m → News h₀ L h' (g (dictOf es' n')) → (adrs (g (dictOf es' n'))).Nodup → Q () { s with heap := h', toks := s.toks + 2 }) :
    wpAny (model prog w) A (setAttr (.ref x) sExt v) Q E s :=
  t_setExt F X N hx hd T U fun h' es' n' T' F' N' => h h' es' n' T' F' N' (by rw [updF_adrs U]; exact nd)
theorem m_copy {l : Addr} {k : Nat} {Q : Value → Shared → Prop} (F : Fr h₀ L s.heap m) (N : News h₀ L s.heap news) (hl : (l, listOf #[] k) ∈ news) (nd : (adrs news).Nodup)
    (h : ∀ D c h', Fr h₀ L h' m → News h₀ L h' ((D, listOf #[] c) :: news) → (adrs ((D, listOf #[] c) :: news)).Nodup → Q (.ref D) { s with heap := h' }) : wpAny (model prog w) A (call (.type "list") [.ref l]) Q E s :=
  list_copyK F N (News.isList N hl) (fun D c h' F' N' lt => h D c h' F' N' (nd_cons lt nd)) (Nat.zero_le _)
theorem m_copyN {l : Addr} {k : Nat} {Q : Value → Shared → Prop} (F : Fr h₀ L s.heap m) (N : News h₀ L s.heap news) (hl : (l, listOf #[] k) ∈ news)
    (h : ∀ D c h', Fr h₀ L h' m → News h₀ L h' ((D, listOf #[] c) :: news) → Q (.ref D) { s with heap := h' }) : wpAny (model prog w) A (call (.type "list") [.ref l]) Q E s :=
  list_copyK F N (News.isList N hl) (fun D c h' F' N' _ => h D c h' F' N') (Nat.zero_le _)
theorem m_truth {l : Addr} {k : Nat} {Q : Bool → Shared → Prop} (N : News h₀ L s.heap news) (hl : (l, listOf #[] k) ∈ news) (h : Q false { s with toks := s.toks + 1 + 1 }) : wpAny (model prog w) A (truthy (.ref l)) Q E s :=
  wpAny_truthy_list (News.isList N hl) (by decide) h
end
theorem m_iter0 {prog : Program} {w : World} {A : Around} {E : Value → Shared → Prop} {s : Shared} {env : Env} {h₀ : Heap} {L : Addr} {x : Str} {body : List Stmt} {Q : Flow → Shared → Prop} {c : Addr} {k : Nat} {m : Str → Option Value} {news : List (Addr × Obj)}
    (hh : A.handled = none) (F : Fr h₀ L s.heap m) (N : News h₀ L s.heap news) (hc : (c, listOf #[] k) ∈ news) (hL : env.locals = L) (done : ∀ h tk, Fr h₀ L h m → News h₀ L h news → Q .next { s with heap := h, toks := tk }) :
    wpAny (model prog w) A (pyIter (.ref c)) (fun it s₂ => LoopAtV prog w A h₀ env x body Q E it s₂) E s := by
  subst hL
  have z := N _ hc
  have hl : s.heap.IsList c #[] := News.isList N hc
  have hlt : c < s.heap.objs.size := Heap.lt_size z.1
  refine wpAny_pyIter_list hl ?_
  refine ⟨s.heap.objs.size, _, _, 0, _, _, m, news, fun _ m' l => m' = m ∧ l = news, rfl, Walks.list hh s.heap.objs.size c (Nat.ne_of_lt hlt) #[], ?_, ?_, ?_, ⟨⟨_, Heap.get?_push_size _ rfl, rfl, rfl⟩, (let ⟨o, ho, r⟩ := hl; ⟨o, Heap.get?_push_of_some _ ho, r⟩)⟩, F.push _, fun p hp => ⟨Heap.get?_push_of_some _ (N p hp).1, (N p hp).2⟩, ⟨rfl, rfl⟩, ?_, ?_⟩
  · intro hm
    rcases List.mem_cons.mp hm with e | hm
    · exact absurd F.ns.lt (e ▸ Nat.lt_irrefl _)
    · exact z.2.1 (List.mem_singleton.mp hm).symm
  · intro b hb
    rw [List.mem_singleton.mp hb]
    exact next_is_new F
  · intro p hp hI
    exact absurd (Heap.lt_size (N p hp).1) ((List.mem_singleton.mp hI) ▸ Nat.lt_irrefl _)
  · intro i v m₁ l s₁ own _ hi
    exact absurd hi (Nat.not_lt_zero _)
  · rintro h' tk m' l' F' N' _ ⟨rfl, rfl⟩
    exact done h' tk F' N'
local macro_rules | `(tactic| walk_at "mBind") => `(tactic| (refine' binds_K ?x1 ?x2 ?x3 ?x4 ?x5 ?x6; (case x1 => k_in); (case x2 => rfl); (case x3 => k_is); (case x4 => rfl); (case x5 => rfl); (case x6 => rfl)))
local macro_rules | `(tactic| walk_at "mBind") => `(tactic| exact BindsTo.of_eq rfl)
local macro_rules | `(tactic| walk_at "mA") => `(tactic| with_reducible assumption)
local macro_rules | `(tactic| walk_at "mK") => `(tactic| first | with_reducible assumption | rfl)
local macro_rules | `(tactic| walk_at "mM") => `(tactic| first | with_reducible assumption | with_reducible exact List.mem_cons_self | (with_reducible refine List.mem_cons_of_mem _ ?_; walk_at "mM") | (with_reducible refine List.mem_append_right _ ?_; walk_at "mM"))
local macro_rules | `(tactic| walk_at "mU") => `(tactic| first | with_reducible exact upd_hd (by with_reducible assumption) | (with_reducible refine' upd_tl2 ?u1 ?u2 ?u3; (case u2 => walk_at "mM"); (case u1 => with_reducible assumption); (case u3 => intro nd8; walk_at "mU")))
local macro_rules | `(tactic| walk_at "mND") => `(tactic| first | with_reducible assumption | k_dflt decide)
local macro_rules | `(tactic| walk_at "newList") => `(tactic| (k_here; k_dflt (refine' m_list ?k1 ?k2 ?k3 ?_; (case k1 => walk_at "mA"); (case k2 => walk_at "mA"); (case k3 => walk_at "mND")); intro l9 h9 F9 N9 nd9))
local macro_rules | `(tactic| walk_at "eval Dict nil nil") => `(tactic| (k_here; k_dflt (refine' m_dict0 ?k1 ?k2 ?k3 ?k4 ?_; (case k1 => walk_at "mA"); (case k2 => walk_at "mA"); (case k3 => exact Top.nolimit (by walk_at "mA")); (case k4 => walk_at "mND")); intro d9 h9 o9 F9 N9 nd9 sm9 hd9))
local macro_rules | `(tactic| walk_at "mHU") => `(tactic| first | decide | exact Nat.le_of_ble_eq_true rfl)
local macro_rules | `(tactic| walk_at "mW") => `(tactic| with_reducible assumption)
local macro_rules | `(tactic| k_mem) => `(tactic| walk_at "mM")
local macro_rules | `(tactic| k_updF) => `(tactic| walk_at "mU")
local macro_rules | `(tactic| walk_at "mFL") => `(tactic| first | with_reducible assumption | with_reducible exact St2.manager (by with_reducible assumption) | with_reducible exact St2.ad (by with_reducible assumption) | with_reducible exact St2.resources (by with_reducible assumption) | with_reducible exact St2.voted (by with_reducible assumption) | with_reducible exact St2.bc (by with_reducible assumption) | with_reducible exact St2.ac (by with_reducible assumption) | with_reducible exact St2.ba (by with_reducible assumption) | with_reducible exact St2.aa (by with_reducible assumption) | with_reducible exact St2.syn (by with_reducible assumption) | ((show (if _ = _ then _ else _) = _); rw [if_neg (by decide)]; walk_at "mFL"))
local macro_rules | `(tactic| walk_at "getAttr ref") => `(tactic| (k_here; (with_reducible show wpAny _ _ (getAttr (Value.ref _) _ _) _ _ _); k_dflt (refine' t_getL ?ka ?kb ?kc ?kd ?ke ?kf ?kg ?kh ?ki ?kj ?kk ?kl ?km ?kn ?ko ?_; (case ka => walk_at "mA"); (case kb => walk_at "mA"); (case kc => walk_at "mA"); (case kd => walk_at "mM"); (case ke => walk_at "mM"); (case kf => walk_at "mA"); (case kg => walk_at "mFL"); (case kh => decide +kernel); (case ki => decide +kernel); (case kj => decide +kernel); (case kk => k_is); (case kl => k_is); (case km => k_is); (case kn => k_is); (case ko => rfl))))
local macro_rules | `(tactic| walk_at "getAttr ref") => `(tactic| (k_here; (with_reducible show wpAny _ _ (getAttr (Value.ref _) _ _) _ _ _); k_dflt (refine' a_getL ?ka ?kb ?kc ?kd ?ke ?kf ?kg ?kh ?ki ?kj ?kk ?kl ?_; (case ka => walk_at "mA"); (case kb => walk_at "mA"); (case kc => walk_at "mA"); (case kd => walk_at "mM"); (case ke => walk_at "mM"); (case kf => walk_at "mW"); (case kg => rfl); (case kh => k_is); (case ki => k_is); (case kj => k_is); (case kk => k_is); (case kl => rfl))))
local macro_rules | `(tactic| walk_at "getAttr ref") => `(tactic| (k_here; (with_reducible show wpAny _ _ (getAttr (Value.ref _) (PySem.Str.ofString "_savepoint2index") _) _ _ _); k_dflt (refine' t_cls ?ka ?kb ?kc ?kd ?ke ?kf ?_; (case ka => walk_at "mA"); (case kb => walk_at "mA"); (case kc => walk_at "mA"); (case kd => walk_at "mM"); (case ke => walk_at "mM"); (case kf => walk_at "mA"))))
local macro_rules | `(tactic| walk_at "getMethod ref") => `(tactic| (k_here; (with_reducible show wpAny _ _ (getMethod (Value.ref _) _ _) _ _ _); k_dflt (refine' t_meth ?ka ?kb ?kc ?kd ?ke ?kf ?kg ?kh ?ki ?kj ?_; (case ka => walk_at "mA"); (case kb => walk_at "mA"); (case kc => walk_at "mA"); (case kd => walk_at "mM"); (case ke => walk_at "mM"); (case kf => walk_at "mA"); (case kg => decide +kernel); (case kh => k_is); (case ki => k_is); (case kj => k_is))))
local macro_rules | `(tactic| walk_at "getMethod ref") => `(tactic| (k_here; (with_reducible show wpAny _ _ (getMethod (Value.ref _) _ _) _ _ _); k_dflt (refine' a_meth ?ka ?kb ?kc ?kd ?ke ?kf ?kg ?kh ?ki ?kj ?_; (case ka => walk_at "mA"); (case kb => walk_at "mA"); (case kc => walk_at "mA"); (case kd => walk_at "mM"); (case ke => walk_at "mM"); (case kf => walk_at "mW"); (case kg => rfl); (case kh => k_is); (case ki => k_is); (case kj => k_is))))
local macro_rules | `(tactic| walk_at "setAttr ref") => `(tactic| (k_here; (with_reducible show wpAny _ _ (setAttr (Value.ref _) _ _) _ _ _); k_dflt (refine' t_setL ?ka ?kb ?kc ?kd ?ke ?kf ?kg ?kh ?ki ?kj ?kk ?kl ?km ?kn ?ko ?kp ?kq ?_; (case ka => walk_at "mA"); (case kb => walk_at "mA"); (case kc => walk_at "mA"); (case kd => walk_at "mM"); (case ke => walk_at "mM"); (case kf => walk_at "mA"); (case kg => walk_at "mU"); (case kh => walk_at "mA"); (case ki => walk_at "mFL"); (case kj => decide +kernel); (case kk => decide +kernel); (case kl => decide +kernel); (case km => decide +kernel); (case kn => k_is); (case ko => k_is); (case kp => k_is); (case kq => k_is)); intro h9 es9 n9 T9 F9 N9 nd9; (try dsimp only at N9 nd9)))
local macro_rules | `(tactic| walk_at "setAttr ref") => `(tactic| (k_here; (with_reducible show wpAny _ _ (setAttr (Value.ref _) (PySem.Str.ofString "extension") _) _ _ _); k_dflt (refine' m_setExt ?ka ?kb ?kc ?kd ?ke ?kf ?kg ?kh ?_; (case ka => walk_at "mA"); (case kb => walk_at "mA"); (case kc => walk_at "mA"); (case kd => walk_at "mM"); (case ke => walk_at "mM"); (case kf => walk_at "mA"); (case kg => walk_at "mU"); (case kh => walk_at "mA")); intro h9 es9 n9 T9 F9 N9 nd9; (try dsimp only at N9 nd9)))
local macro_rules | `(tactic| walk_at "call type:list") => `(tactic| (k_here; (with_reducible show wpAny _ _ (call (Value.type _) [Value.ref _]) _ _ _); k_dflt (refine' m_copyN ?ka ?kb ?kc ?_; (case ka => walk_at "mA"); (case kb => walk_at "mA"); (case kc => walk_at "mM")); intro c9 cn9 h9 F9 N9; (try dsimp only at N9 nd9)))
local macro_rules | `(tactic| walk_at "call type:list") => `(tactic| (k_here; (with_reducible show wpAny _ _ (call (Value.type _) [Value.ref _]) _ _ _); k_dflt (refine' m_copy ?ka ?kb ?kc ?kd ?_; (case ka => walk_at "mA"); (case kb => walk_at "mA"); (case kc => walk_at "mM"); (case kd => walk_at "mA")); intro c9 cn9 h9 F9 N9 nd9; (try dsimp only at N9 nd9)))
local macro_rules | `(tactic| walk_at "truthy ref") => `(tactic| (k_here; (with_reducible show wpAny _ _ (truthy (Value.ref _)) _ _ _); k_dflt (refine' m_truth ?ka ?kb ?_; (case ka => walk_at "mA"); (case kb => walk_at "mM"))))
local macro_rules | `(tactic| walk_at "pyIter ref") => `(tactic| (k_here; (with_reducible show wpAny _ _ (pyIter (Value.ref _)) (fun it s₂ => LoopAtV _ _ _ _ _ _ _ _ _ it s₂) _ _); k_dflt (refine' m_iter0 ?ka ?kb ?kc ?kd ?ke ?_; (case ka => rfl); (case kb => walk_at "mA"); (case kc => walk_at "mA"); (case kd => walk_at "mM"); (case ke => rfl)); intro h9 tk9 F9 N9; (try dsimp only)))
section
variable {w : World} {news : List (Addr × Obj)} {ws wd wl : Addr} {wes : List DictEntry} {wn k : Nat} {fv : Value}
theorem ct_awl (hws : (ws, instObj 143 wd) ∈ news) (hwd : (wd, dictOf wes wn) ∈ news) (hwl : (wl, listOf #[] k) ∈ news) (W : AD [(Str.ofString "data", .ref wl)] wes) : Ct w 2 140 [.ref ws] news fun r l => ∃ c n, r = .ref c ∧ l = (c, listOf #[] n) :: news := by
  unfold Ct
  intros
  rename_i hret
  k_dflt (refine' code_def (binds := [(Str.ofString "self", .ref ws)]) ?k1 ?k2 ?k3 ?k4 ?k5 ?kA ?kF ?kK ?k6 ?k7 ?k8 ?k9 ?kB ?_ ?c2 ?c3 ?c4 ?c5; (case kA => exact rfl); (case kF => exact rfl); (case kK => assumption); (case k1 => k_asm); (case k2 => k_asm); (case k3 => k_asm); (case k4 => k_asm); (case k5 => k_asm); (case k6 => k_is); (case k7 => k_is); (case k8 => ktr_room); (case k9 => walk_at "mBind"); (case c5 => decide); (case kB => exact locs rfl); (case c2 => exact rfl); (case c3 => exact rfl); (case c4 => exact rfl); k_whole; intro g' L' h' FG' F' N' B' X' T'; (try dsimp only); (try simp only [List.reverse_cons, List.reverse_nil, List.nil_append, List.cons_append] at F'); (try k_fold))
  k_steps
  exact hret _ _ _ _ ⟨_, _, rfl, rfl⟩ (by assumption) (by assumption)
end
section
variable {w : World} {news : List (Addr × Obj)} {p : Program} {loose : List Str} {mean : ExcName → Option Value} {mg mb : Str → Option Value} {dp un : Nat} {gd : Option (List Code)} {cn : Str} {cs : Scope} {a : Addr} {ccd : Value} {cl : List (Str × Addr)} {outer : List Env}
    {A₀ : Around} {base h₀ : Heap} {L : Addr} {m : Str → Option Value} {s : Shared} {E : Value → Shared → Prop}
theorem s_awl {ws wd wl : Addr} {wes : List DictEntry} {wn k : Nat} (B : Below A₀ base outer h₀) (F : Fr h₀ L s.heap m) (X : (Mine.hd.heap_39 w.params).In h₀) (N : News h₀ L s.heap news) (T' : Top p loose mean mg mb h₀) (hk : cs.kind = .function) (hd' : dp + 2 * 2 < recursionLimit) (hu : un + 0 + 10 * 2 < cLine) (hws : (ws, instObj 143 wd) ∈ news) (hwd : (wd, dictOf wes wn) ∈ news) (hwl : (wl, listOf #[] k) ∈ news) (W : AD [(Str.ofString "data", .ref wl)] wes) {Q : Value → Shared → Prop} (h : ∀ c n h' tk', Fr h₀ L h' m → News h₀ L h' ((c, listOf #[] n) :: news) → Q (.ref c) { s with heap := h', toks := tk' }) :
    wpAny (model PR w) (ktrTop dp un gd cn cs L a ccd cl outer) (call (.ref 140) [.ref ws]) Q E s :=
  (ct_awl hws hwd hwl W).call B F X N T' hk hd' hu fun _ _ h' tk' ⟨c, n, hr, hl⟩ F' N' => by
    subst hr hl
    exact h c n h' tk' F' N'
end
local macro_rules | `(tactic| walk_at "call ref") => `(tactic| (k_here; (with_reducible show wpAny _ _ (PySem.call (Value.ref 140) _ _) _ _ _); k_dflt (refine' s_awl ?ka ?kb ?kc ?kd ?ke ?kf ?kg ?kh ?ki ?kj ?kk ?kl ?_; (case ka => walk_at "mA"); (case kb => walk_at "mA"); (case kc => walk_at "mA"); (case kd => walk_at "mA"); (case ke => walk_at "mA"); (case kf => walk_at "mK"); (case kg => ktr_room); (case kh => ktr_units); (case ki => walk_at "mM"); (case kj => walk_at "mM"); (case kk => walk_at "mM"); (case kl => walk_at "mA")); intro c9 cn9 h9 tk9 F9 N9; (try dsimp only at N9)))
section
variable {w : World} {news : List (Addr × Obj)} {ws wd wl : Addr} {wes : List DictEntry} {wn k : Nat} {fv : Value}
theorem ct_map (hws : (ws, instObj 143 wd) ∈ news) (hwd : (wd, dictOf wes wn) ∈ news) (hwl : (wl, listOf #[] k) ∈ news) (W : AD [(Str.ofString "data", .ref wl)] wes) : Ct w 4 133 [.ref ws, fv] news fun r l => r = .none ∧ l = news := by
  unfold Ct
  intros
  rename_i hret
  k_dflt (refine' code_def (binds := [(Str.ofString "self", .ref ws), (Str.ofString "f", fv)]) ?k1 ?k2 ?k3 ?k4 ?k5 ?kA ?kF ?kK ?k6 ?k7 ?k8 ?k9 ?kB ?_ ?c2 ?c3 ?c4 ?c5; (case kA => exact rfl); (case kF => exact rfl); (case kK => assumption); (case k1 => k_asm); (case k2 => k_asm); (case k3 => k_asm); (case k4 => k_asm); (case k5 => k_asm); (case k6 => k_is); (case k7 => k_is); (case k8 => ktr_room); (case k9 => walk_at "mBind"); (case c5 => decide); (case kB => exact locs rfl); (case c2 => exact rfl); (case c3 => exact rfl); (case c4 => exact rfl); k_whole; intro g' L' h' FG' F' N' B' X' T'; (try dsimp only); (try simp only [List.reverse_cons, List.reverse_nil, List.nil_append, List.cons_append] at F'); (try k_fold))
  k_steps
  exact hret _ _ _ _ ⟨rfl, rfl⟩ (by assumption) (News.tail' (by assumption))
end
def Ctk (w : World) (k : Nat) (f : Addr) (args : Args) (news : List (Addr × Obj)) (R : Value → List (Addr × Obj) → Prop) : Prop :=
  ∀ (p : Program) (loose : List Str) (mean : ExcName → Option Value) (mg mb : Str → Option Value) (dp un : Nat) (gd : Option (List Code)) (cn : Str) (cs : Scope) (a : Addr) (ccd : Value) (cl : List (Str × Addr)) (outer : List Env)
    (A₀ : Around) (base h₀ : Heap) (L : Addr) (m : Str → Option Value) (s : Shared) (Q E : Value → Shared → Prop),
    Below A₀ base outer h₀ → Fr h₀ L s.heap m → (Mine.hd.heap_39 w.params).In h₀ → News h₀ L s.heap news → Top p loose mean mg mb h₀ → cs.kind = .function →
    dp + 2 * k < recursionLimit → un + 10 * k < cLine →
    (∀ (v : Value) (news' : List (Addr × Obj)) (h' : Heap) (tk' : Nat), R v news' → Fr h₀ L h' m → News h₀ L h' news' → Q v { s with heap := h', toks := tk' }) →
      codeAny (model PR w) (ktrTop dp un gd cn cs L a ccd cl outer) (.call (.ref f) args) (fun r s' => match r with | .ok (.ret v) => Q v s' | .ok _ => False | .error e => E e s') s
section
variable {w : World} {news : List (Addr × Obj)} {x hk : Addr} {n : Nat} {fv : Value}
theorem hk0 (hm : (hk, listOf #[] n) ∈ news) : Ctk w 1 399 ⟨[.ref x, .ref hk], []⟩ news fun r l => r = .none ∧ l = news := by
  unfold Ctk
  intros
  rename_i hret
  k_dflt (refine' code_def (binds := [(Str.ofString "self", .ref x), (Str.ofString "hooks", .ref hk), (Str.ofString "exc", _), (Str.ofString "clean", _), (Str.ofString "prefix_args", _)]) ?k1 ?k2 ?k3 ?k4 ?k5 ?kA ?kF ?kK ?k6 ?k7 ?k8 ?k9 ?kB ?_ ?c2 ?c3 ?c4 ?c5; (case kA => exact rfl); (case kF => exact rfl); (case kK => assumption); (case k1 => k_asm); (case k2 => k_asm); (case k3 => k_asm); (case k4 => k_asm); (case k5 => k_asm); (case k6 => k_is); (case k7 => k_is); (case k8 => ktr_room); (case k9 => (refine' binds_K (by k_in) ?x2 ?x3 ?x4 ?x5 ?x6; (case x2 => rfl); (case x3 => k_is); (case x4 => rfl); (case x5 => rfl); (case x6 => rfl))); (case c5 => decide); (case kB => exact locs rfl); (case c2 => exact rfl); (case c3 => exact rfl); (case c4 => exact rfl); k_whole; intro g' L' h' FG' F' N' B' X' T'; (try dsimp only); (try simp only [List.reverse_cons, List.reverse_nil, List.nil_append, List.cons_append] at F'); (try k_fold))
  k_steps
  exact hret _ _ _ _ ⟨rfl, rfl⟩ (by assumption) (by assumption)
theorem hk1 (hm : (hk, listOf #[] n) ∈ news) : Ctk w 1 399 ⟨[.ref x, .ref hk], [(Str.ofString "exc", .bool false), (Str.ofString "clean", .bool true), (Str.ofString "prefix_args", fv)]⟩ news fun r l => r = .none ∧ l = news := by
  unfold Ctk
  intros
  rename_i hret
  k_dflt (refine' code_def (binds := [(Str.ofString "self", .ref x), (Str.ofString "hooks", .ref hk), (Str.ofString "exc", _), (Str.ofString "clean", _), (Str.ofString "prefix_args", _)]) ?k1 ?k2 ?k3 ?k4 ?k5 ?kA ?kF ?kK ?k6 ?k7 ?k8 ?k9 ?kB ?_ ?c2 ?c3 ?c4 ?c5; (case kA => exact rfl); (case kF => exact rfl); (case kK => assumption); (case k1 => k_asm); (case k2 => k_asm); (case k3 => k_asm); (case k4 => k_asm); (case k5 => k_asm); (case k6 => k_is); (case k7 => k_is); (case k8 => ktr_room); (case k9 => (refine' binds_K (by k_in) ?x2 ?x3 ?x4 ?x5 ?x6; (case x2 => rfl); (case x3 => k_is); (case x4 => rfl); (case x5 => rfl); (case x6 => rfl))); (case c5 => decide); (case kB => exact locs rfl); (case c2 => exact rfl); (case c3 => exact rfl); (case c4 => exact rfl); k_whole; intro g' L' h' FG' F' N' B' X' T'; (try dsimp only); (try simp only [List.reverse_cons, List.reverse_nil, List.nil_append, List.cons_append] at F'); (try k_fold))
  k_steps
  exact hret _ _ _ _ ⟨rfl, rfl⟩ (by assumption) (by assumption)
theorem hk2 (hm : (hk, listOf #[] n) ∈ news) : Ctk w 1 399 ⟨[.ref x, .ref hk], [(Str.ofString "exc", .bool false)]⟩ news fun r l => r = .none ∧ l = news := by
  unfold Ctk
  intros
  rename_i hret
  k_dflt (refine' code_def (binds := [(Str.ofString "self", .ref x), (Str.ofString "hooks", .ref hk), (Str.ofString "exc", _), (Str.ofString "clean", _), (Str.ofString "prefix_args", _)]) ?k1 ?k2 ?k3 ?k4 ?k5 ?kA ?kF ?kK ?k6 ?k7 ?k8 ?k9 ?kB ?_ ?c2 ?c3 ?c4 ?c5; (case kA => exact rfl); (case kF => exact rfl); (case kK => assumption); (case k1 => k_asm); (case k2 => k_asm); (case k3 => k_asm); (case k4 => k_asm); (case k5 => k_asm); (case k6 => k_is); (case k7 => k_is); (case k8 => ktr_room); (case k9 => (refine' binds_K (by k_in) ?x2 ?x3 ?x4 ?x5 ?x6; (case x2 => rfl); (case x3 => k_is); (case x4 => rfl); (case x5 => rfl); (case x6 => rfl))); (case c5 => decide); (case kB => exact locs rfl); (case c2 => exact rfl); (case c3 => exact rfl); (case c4 => exact rfl); k_whole; intro g' L' h' FG' F' N' B' X' T'; (try dsimp only); (try simp only [List.reverse_cons, List.reverse_nil, List.nil_append, List.cons_append] at F'); (try k_fold))
  k_steps
  exact hret _ _ _ _ ⟨rfl, rfl⟩ (by assumption) (by assumption)
theorem hk3 (hm : (hk, listOf #[] n) ∈ news) : Ctk w 1 399 ⟨[.ref x, .ref hk], [(Str.ofString "clean", .bool true)]⟩ news fun r l => r = .none ∧ l = news := by
  unfold Ctk
  intros
  rename_i hret
  k_dflt (refine' code_def (binds := [(Str.ofString "self", .ref x), (Str.ofString "hooks", .ref hk), (Str.ofString "exc", _), (Str.ofString "clean", _), (Str.ofString "prefix_args", _)]) ?k1 ?k2 ?k3 ?k4 ?k5 ?kA ?kF ?kK ?k6 ?k7 ?k8 ?k9 ?kB ?_ ?c2 ?c3 ?c4 ?c5; (case kA => exact rfl); (case kF => exact rfl); (case kK => assumption); (case k1 => k_asm); (case k2 => k_asm); (case k3 => k_asm); (case k4 => k_asm); (case k5 => k_asm); (case k6 => k_is); (case k7 => k_is); (case k8 => ktr_room); (case k9 => (refine' binds_K (by k_in) ?x2 ?x3 ?x4 ?x5 ?x6; (case x2 => rfl); (case x3 => k_is); (case x4 => rfl); (case x5 => rfl); (case x6 => rfl))); (case c5 => decide); (case kB => exact locs rfl); (case c2 => exact rfl); (case c3 => exact rfl); (case c4 => exact rfl); k_whole; intro g' L' h' FG' F' N' B' X' T'; (try dsimp only); (try simp only [List.reverse_cons, List.reverse_nil, List.nil_append, List.cons_append] at F'); (try k_fold))
  k_steps
  exact hret _ _ _ _ ⟨rfl, rfl⟩ (by assumption) (by assumption)
end
section
variable {w : World} {news : List (Addr × Obj)} {p : Program} {loose : List Str} {mean : ExcName → Option Value} {mg mb : Str → Option Value} {dp un : Nat} {gd : Option (List Code)} {cn : Str} {cs : Scope} {a : Addr} {ccd : Value} {cl : List (Str × Addr)} {outer : List Env}
    {A₀ : Around} {base h₀ : Heap} {L : Addr} {m : Str → Option Value} {s : Shared} {E : Value → Shared → Prop}
theorem Ctk.call {k : Nat} {fa : Addr} {pos : List Value} {kw : List (Str × Value)} {R : Value → List (Addr × Obj) → Prop} {Q : Value → Shared → Prop} (C : Ctk w k fa ⟨pos, kw⟩ news R) (B : Below A₀ base outer h₀) (F : Fr h₀ L s.heap m) (X : (Mine.hd.heap_39 w.params).In h₀) (N : News h₀ L s.heap news) (T' : Top p loose mean mg mb h₀) (hk : cs.kind = .function)
    (hd : dp + 2 * k < recursionLimit) (hu : un + 10 * k < cLine) (h : ∀ (v : Value) (news' : List (Addr × Obj)) (h' : Heap) (tk' : Nat), R v news' → Fr h₀ L h' m → News h₀ L h' news' → Q v { s with heap := h', toks := tk' }) :
    wpAny (model PR w) (ktrTop dp un gd cn cs L a ccd cl outer) (PySem.call (.ref fa) pos kw) Q E s :=
  wpAny_call (codeAny_mono (C p loose mean mg mb dp un gd cn cs a ccd cl outer A₀ base h₀ L m s Q E B F X N T' hk hd hu h) fun r s' z => by rcases r with e | (v | _ | _ | _) <;> exact z)
theorem s_hk0 {x hk' : Addr} {n : Nat} (B : Below A₀ base outer h₀) (F : Fr h₀ L s.heap m) (X : (Mine.hd.heap_39 w.params).In h₀) (N : News h₀ L s.heap news) (T' : Top p loose mean mg mb h₀) (hk : cs.kind = .function) (hd' : dp + 2 * 1 < recursionLimit) (hu : un + 0 + 10 * 1 < cLine) (hm : (hk', listOf #[] n) ∈ news) {Q : Value → Shared → Prop} (h : ∀ h' tk', Fr h₀ L h' m → News h₀ L h' news → Q .none { s with heap := h', toks := tk' }) :
    wpAny (model PR w) (ktrTop dp un gd cn cs L a ccd cl outer) (PySem.call (.ref 399) [.ref x, .ref hk'] []) Q E s :=
  (hk0 (x := x) (n := n) hm).call B F X N T' hk hd' hu fun _ _ h' tk' ⟨hr, hl⟩ F' N' => by
    subst hr hl
    exact h h' tk' F' N'
theorem s_hk1 {x hk' : Addr} {n : Nat} {fv : Value} (B : Below A₀ base outer h₀) (F : Fr h₀ L s.heap m) (X : (Mine.hd.heap_39 w.params).In h₀) (N : News h₀ L s.heap news) (T' : Top p loose mean mg mb h₀) (hk : cs.kind = .function) (hd' : dp + 2 * 1 < recursionLimit) (hu : un + 0 + 10 * 1 < cLine) (hm : (hk', listOf #[] n) ∈ news) {Q : Value → Shared → Prop} (h : ∀ h' tk', Fr h₀ L h' m → News h₀ L h' news → Q .none { s with heap := h', toks := tk' }) :
    wpAny (model PR w) (ktrTop dp un gd cn cs L a ccd cl outer) (PySem.call (.ref 399) [.ref x, .ref hk'] [(Str.ofString "exc", .bool false), (Str.ofString "clean", .bool true), (Str.ofString "prefix_args", fv)]) Q E s :=
  (hk1 (x := x) (n := n) hm).call B F X N T' hk hd' hu fun _ _ h' tk' ⟨hr, hl⟩ F' N' => by
    subst hr hl
    exact h h' tk' F' N'
theorem s_hk2 {x hk' : Addr} {n : Nat} (B : Below A₀ base outer h₀) (F : Fr h₀ L s.heap m) (X : (Mine.hd.heap_39 w.params).In h₀) (N : News h₀ L s.heap news) (T' : Top p loose mean mg mb h₀) (hk : cs.kind = .function) (hd' : dp + 2 * 1 < recursionLimit) (hu : un + 0 + 10 * 1 < cLine) (hm : (hk', listOf #[] n) ∈ news) {Q : Value → Shared → Prop} (h : ∀ h' tk', Fr h₀ L h' m → News h₀ L h' news → Q .none { s with heap := h', toks := tk' }) :
    wpAny (model PR w) (ktrTop dp un gd cn cs L a ccd cl outer) (PySem.call (.ref 399) [.ref x, .ref hk'] [(Str.ofString "exc", .bool false)]) Q E s :=
  (hk2 (x := x) (n := n) hm).call B F X N T' hk hd' hu fun _ _ h' tk' ⟨hr, hl⟩ F' N' => by
    subst hr hl
    exact h h' tk' F' N'
theorem s_hk3 {x hk' : Addr} {n : Nat} (B : Below A₀ base outer h₀) (F : Fr h₀ L s.heap m) (X : (Mine.hd.heap_39 w.params).In h₀) (N : News h₀ L s.heap news) (T' : Top p loose mean mg mb h₀) (hk : cs.kind = .function) (hd' : dp + 2 * 1 < recursionLimit) (hu : un + 0 + 10 * 1 < cLine) (hm : (hk', listOf #[] n) ∈ news) {Q : Value → Shared → Prop} (h : ∀ h' tk', Fr h₀ L h' m → News h₀ L h' news → Q .none { s with heap := h', toks := tk' }) :
    wpAny (model PR w) (ktrTop dp un gd cn cs L a ccd cl outer) (PySem.call (.ref 399) [.ref x, .ref hk'] [(Str.ofString "clean", .bool true)]) Q E s :=
  (hk3 (x := x) (n := n) hm).call B F X N T' hk hd' hu fun _ _ h' tk' ⟨hr, hl⟩ F' N' => by
    subst hr hl
    exact h h' tk' F' N'
end
local macro_rules | `(tactic| walk_at "call ref") => `(tactic| (k_here; (with_reducible show wpAny _ _ (PySem.call (Value.ref 399) _ _) _ _ _); k_dflt (first | (refine' s_hk0 ?ka ?kb ?kc ?kd ?ke ?kf ?kg ?kh ?ki ?_; (case ka => walk_at "mA"); (case kb => walk_at "mA"); (case kc => walk_at "mA"); (case kd => walk_at "mA"); (case ke => walk_at "mA"); (case kf => walk_at "mK"); (case kg => ktr_room); (case kh => ktr_units); (case ki => walk_at "mM"); intro h9 tk9 F9 N9; (try dsimp only at N9)) | (refine' s_hk1 ?ka ?kb ?kc ?kd ?ke ?kf ?kg ?kh ?ki ?_; (case ka => walk_at "mA"); (case kb => walk_at "mA"); (case kc => walk_at "mA"); (case kd => walk_at "mA"); (case ke => walk_at "mA"); (case kf => walk_at "mK"); (case kg => ktr_room); (case kh => ktr_units); (case ki => walk_at "mM"); intro h9 tk9 F9 N9; (try dsimp only at N9)) | (refine' s_hk2 ?ka ?kb ?kc ?kd ?ke ?kf ?kg ?kh ?ki ?_; (case ka => walk_at "mA"); (case kb => walk_at "mA"); (case kc => walk_at "mA"); (case kd => walk_at "mA"); (case ke => walk_at "mA"); (case kf => walk_at "mK"); (case kg => ktr_room); (case kh => ktr_units); (case ki => walk_at "mM"); intro h9 tk9 F9 N9; (try dsimp only at N9)) | (refine' s_hk3 ?ka ?kb ?kc ?kd ?ke ?kf ?kg ?kh ?ki ?_; (case ka => walk_at "mA"); (case kb => walk_at "mA"); (case kc => walk_at "mA"); (case kd => walk_at "mA"); (case ke => walk_at "mA"); (case kf => walk_at "mK"); (case kg => ktr_room); (case kh => ktr_units); (case ki => walk_at "mM"); intro h9 tk9 F9 N9; (try dsimp only at N9)))))
section
variable {w : World} {news : List (Addr × Obj)} {x dx : Addr} {f : Str → Option (Option Value)} {a : SA} {es : List DictEntry} {n k : Nat} {e : Value} {u d : Str}
theorem ct_cbh (hx : (x, instObj 522 dx) ∈ news) (hd : (dx, dictOf es n) ∈ news) (T : TD f es e u d) (S2 : St2 f a) (hm : (a.bc, listOf #[] k) ∈ news) : Ct w 3 366 [.ref x] news fun r l => r = .none ∧ l = news := by
  unfold Ct
  intros
  rename_i hret
  k_dflt (refine' code_def (binds := [(Str.ofString "self", .ref x)]) ?k1 ?k2 ?k3 ?k4 ?k5 ?kA ?kF ?kK ?k6 ?k7 ?k8 ?k9 ?kB ?_ ?c2 ?c3 ?c4 ?c5; (case kA => exact rfl); (case kF => exact rfl); (case kK => assumption); (case k1 => k_asm); (case k2 => k_asm); (case k3 => k_asm); (case k4 => k_asm); (case k5 => k_asm); (case k6 => k_is); (case k7 => k_is); (case k8 => ktr_room); (case k9 => walk_at "mBind"); (case c5 => decide); (case kB => exact locs rfl); (case c2 => exact rfl); (case c3 => exact rfl); (case c4 => exact rfl); k_whole; intro g' L' h' FG' F' N' B' X' T'; (try dsimp only); (try simp only [List.reverse_cons, List.reverse_nil, List.nil_append, List.cons_append] at F'); (try k_fold))
  k_steps
  exact hret _ _ _ _ ⟨rfl, rfl⟩ (by assumption) (by assumption)
theorem ct_bah (hx : (x, instObj 522 dx) ∈ news) (hd : (dx, dictOf es n) ∈ news) (T : TD f es e u d) (S2 : St2 f a) (hm : (a.ba, listOf #[] k) ∈ news) : Ct w 3 422 [.ref x] news fun r l => r = .none ∧ l = news := by
  unfold Ct
  intros
  rename_i hret
  k_dflt (refine' code_def (binds := [(Str.ofString "self", .ref x)]) ?k1 ?k2 ?k3 ?k4 ?k5 ?kA ?kF ?kK ?k6 ?k7 ?k8 ?k9 ?kB ?_ ?c2 ?c3 ?c4 ?c5; (case kA => exact rfl); (case kF => exact rfl); (case kK => assumption); (case k1 => k_asm); (case k2 => k_asm); (case k3 => k_asm); (case k4 => k_asm); (case k5 => k_asm); (case k6 => k_is); (case k7 => k_is); (case k8 => ktr_room); (case k9 => walk_at "mBind"); (case c5 => decide); (case kB => exact locs rfl); (case c2 => exact rfl); (case c3 => exact rfl); (case c4 => exact rfl); k_whole; intro g' L' h' FG' F' N' B' X' T'; (try dsimp only); (try simp only [List.reverse_cons, List.reverse_nil, List.nil_append, List.cons_append] at F'); (try k_fold))
  k_steps
  exact hret _ _ _ _ ⟨rfl, rfl⟩ (by assumption) (by assumption)
theorem ct_aah (hx : (x, instObj 522 dx) ∈ news) (hd : (dx, dictOf es n) ∈ news) (T : TD f es e u d) (S2 : St2 f a) (hm : (a.aa, listOf #[] k) ∈ news) : Ct w 3 445 [.ref x] news fun r l => r = .none ∧ l = news := by
  unfold Ct
  intros
  rename_i hret
  k_dflt (refine' code_def (binds := [(Str.ofString "self", .ref x)]) ?k1 ?k2 ?k3 ?k4 ?k5 ?kA ?kF ?kK ?k6 ?k7 ?k8 ?k9 ?kB ?_ ?c2 ?c3 ?c4 ?c5; (case kA => exact rfl); (case kF => exact rfl); (case kK => assumption); (case k1 => k_asm); (case k2 => k_asm); (case k3 => k_asm); (case k4 => k_asm); (case k5 => k_asm); (case k6 => k_is); (case k7 => k_is); (case k8 => ktr_room); (case k9 => walk_at "mBind"); (case c5 => decide); (case kB => exact locs rfl); (case c2 => exact rfl); (case c3 => exact rfl); (case c4 => exact rfl); k_whole; intro g' L' h' FG' F' N' B' X' T'; (try dsimp only); (try simp only [List.reverse_cons, List.reverse_nil, List.nil_append, List.cons_append] at F'); (try k_fold))
  k_steps
  exact hret _ _ _ _ ⟨rfl, rfl⟩ (by assumption) (by assumption)
theorem ct_ach (hx : (x, instObj 522 dx) ∈ news) (hd : (dx, dictOf es n) ∈ news) (T : TD f es e u d) (S2 : St2 f a) (hm : (a.ac, listOf #[] k) ∈ news) : Ctk w 3 390 ⟨[.ref x], [(Str.ofString "status", .bool true)]⟩ news fun r l => r = .none ∧ l = news := by
  unfold Ctk
  intros
  rename_i hret
  k_dflt (refine' code_def (binds := [(Str.ofString "self", .ref x), (Str.ofString "status", .bool true)]) ?k1 ?k2 ?k3 ?k4 ?k5 ?kA ?kF ?kK ?k6 ?k7 ?k8 ?k9 ?kB ?_ ?c2 ?c3 ?c4 ?c5; (case kA => exact rfl); (case kF => exact rfl); (case kK => assumption); (case k1 => k_asm); (case k2 => k_asm); (case k3 => k_asm); (case k4 => k_asm); (case k5 => k_asm); (case k6 => k_is); (case k7 => k_is); (case k8 => ktr_room); (case k9 => walk_at "mBind"); (case c5 => decide); (case kB => exact locs rfl); (case c2 => exact rfl); (case c3 => exact rfl); (case c4 => exact rfl); k_whole; intro g' L' h' FG' F' N' B' X' T'; (try dsimp only); (try simp only [List.reverse_cons, List.reverse_nil, List.nil_append, List.cons_append] at F'); (try k_fold))
  k_steps
  exact hret _ _ _ _ ⟨rfl, rfl⟩ (by assumption) (News.tail' (by assumption))
end
local macro_rules | `(tactic| walk_at "mU") => `(tactic| with_reducible assumption)
local macro_rules | `(tactic| walk_at "eval Slice") => `(tactic| (k_here; (with_reducible show wpAny _ _ (eval (Expr.Slice none none none _) _) _ _ _); k_dflt (refine' m_slice ?ka ?kb ?kc ?_; (case ka => walk_at "mA"); (case kb => walk_at "mA"); (case kc => walk_at "mA")); intro sl9 h9 F9 N9 nd9; (try dsimp only at N9 nd9)))
local macro_rules | `(tactic| walk_at "delItem ref ref") => `(tactic| (k_here; (with_reducible show wpAny _ _ (delItem (Value.ref _) (Value.ref _)) _ _ _); k_dflt (refine' m_delAll ?ka ?kb ?kc ?kd ?ke ?kf ?_; (case ka => walk_at "mA"); (case kb => walk_at "mA"); (case kc => walk_at "mM"); (case kd => walk_at "mM"); (case ke => walk_at "mU"); (case kf => walk_at "mA")); intro h9 dn9 F9 N9 nd9; (try dsimp only at N9 nd9)))
section
variable {w : World} {A : Around} {E : Value → Shared → Prop} {s : Shared} {h₀ : Heap} {L x dx : Addr} {m : Str → Option Value} {news : List (Addr × Obj)} {f : Str → Option (Option Value)} {es : List DictEntry} {n : Nat} {e : Value} {u d : Str} {t : Tok}
theorem t_hasattr {Q : Value → Shared → Prop} (hA : A.handled = none) (F : Fr h₀ L s.heap m) (X₀ : (Mine.hd.heap_39 w.params).In h₀) (N : News h₀ L s.heap news) (hx : (x, instObj 522 dx) ∈ news) (hd : (dx, dictOf es n) ∈ news) (T : TD f es e u d)
    (h : ∀ h' tk, Fr h₀ L h' m → News h₀ L h' news → Q (.bool false) { s with heap := h', toks := tk }) :
    wpAny (model PR w) A (call (.builtin "hasattr") [.ref x, .str (Str.ofString "_data") t]) Q E s :=
  s_hasattr hA F X₀ N hx hd (T.meth _ (by decide +kernel)) h
end
local macro_rules | `(tactic| walk_at "call builtin:hasattr") => `(tactic| (k_here; (with_reducible show wpAny _ _ (PySem.call (Value.builtin "hasattr") [Value.ref _, Value.str _ _]) _ _ _); k_dflt (refine' t_hasattr ?ka ?kb ?kc ?kd ?ke ?kf ?kg ?_; (case ka => rfl); (case kb => walk_at "mA"); (case kc => walk_at "mA"); (case kd => walk_at "mA"); (case ke => walk_at "mM"); (case kf => walk_at "mM"); (case kg => walk_at "mA")); intro h9 tk9 F9 N9; (try dsimp only at N9 nd9)))
section
variable {w : World} {news rest : List (Addr × Obj)} {x dx : Addr} {f : Str → Option (Option Value)} {a : SA} {es : List DictEntry} {n k1 k2 k3 k4 k5 : Nat} {e : Value} {u d : Str} {g : Obj → List (Addr × Obj)}
theorem ct_fm (hx : (x, instObj 522 dx) ∈ news) (hd : (dx, dictOf es n) ∈ news) (T : TD f es e u d) (S2 : St2 f a) (U : UpdF dx (dictOf es n) news g) (nd : (adrs news).Nodup) : Ct w 2 464 [.ref x] news fun r l => r = .none ∧ ∃ es' n', TD f es' e u d ∧ l = g (dictOf es' n') := by
  unfold Ct
  intros
  rename_i hret
  k_dflt (refine' code_def (binds := [(Str.ofString "self", .ref x)]) ?k1 ?k2 ?k3 ?k4 ?k5 ?kA ?kF ?kK ?k6 ?k7 ?k8 ?k9 ?kB ?_ ?c2 ?c3 ?c4 ?c5; (case kA => exact rfl); (case kF => exact rfl); (case kK => assumption); (case k1 => k_asm); (case k2 => k_asm); (case k3 => k_asm); (case k4 => k_asm); (case k5 => k_asm); (case k6 => k_is); (case k7 => k_is); (case k8 => ktr_room); (case k9 => walk_at "mBind"); (case c5 => decide); (case kB => exact locs rfl); (case c2 => exact rfl); (case c3 => exact rfl); (case c4 => exact rfl); k_whole; intro g' L' h' FG' F' N' B' X' T'; (try dsimp only); (try simp only [List.reverse_cons, List.reverse_nil, List.nil_append, List.cons_append] at F'); (try k_fold))
  k_steps
  exact hret _ _ _ _ ⟨rfl, _, _, TD.congr (by assumption) (fun y => by
    by_cases q : y = Str.ofString "_manager"
    · rw [if_pos q, q]; exact S2.manager.symm
    · rw [if_neg q]), rfl⟩ (by assumption) (by assumption)
end
section
variable {w : World} {news : List (Addr × Obj)} {p : Program} {loose : List Str} {mean : ExcName → Option Value} {mg mb : Str → Option Value} {dp un : Nat} {gd : Option (List Code)} {cn : Str} {cs : Scope} {a : Addr} {ccd : Value} {cl : List (Str × Addr)} {outer : List Env}
    {A₀ : Around} {base h₀ : Heap} {L : Addr} {m : Str → Option Value} {s : Shared} {E : Value → Shared → Prop}
theorem s_fm {x dx : Addr} {f : Str → Option (Option Value)} {sa : SA} {es : List DictEntry} {n : Nat} {e : Value} {u d : Str} {g : Obj → List (Addr × Obj)} (B : Below A₀ base outer h₀) (F : Fr h₀ L s.heap m) (X : (Mine.hd.heap_39 w.params).In h₀) (N : News h₀ L s.heap news) (T' : Top p loose mean mg mb h₀) (hk : cs.kind = .function) (hd' : dp + 2 * 2 < recursionLimit) (hu : un + 0 + 10 * 2 < cLine) (hx : (x, instObj 522 dx) ∈ news) (hdx : (dx, dictOf es n) ∈ news) (T : TD f es e u d) (S2 : St2 f sa) (U : UpdF dx (dictOf es n) news g) (nd : (adrs news).Nodup)
    {Q : Value → Shared → Prop} (h : ∀ h' tk' es' n', TD f es' e u d → Fr h₀ L h' m → News h₀ L h' (g (dictOf es' n')) → (adrs (g (dictOf es' n'))).Nodup → Q .none { s with heap := h', toks := tk' }) :
    wpAny (model PR w) (ktrTop dp un gd cn cs L a ccd cl outer) (call (.ref 464) [.ref x]) Q E s :=
  (ct_fm hx hdx T S2 U nd).call B F X N T' hk hd' hu fun _ _ h' tk' ⟨hr, es', n', T2, hl⟩ F' N' => by
    subst hr hl
    exact h h' tk' es' n' T2 F' N' (by rw [updF_adrs U]; exact nd)
end
local macro_rules | `(tactic| walk_at "call ref") => `(tactic| (k_here; (with_reducible show wpAny _ _ (PySem.call (Value.ref 464) _ _) _ _ _); k_dflt (refine' s_fm ?ka ?kb ?kc ?kd ?ke ?kf ?kg ?kh ?ki ?kj ?kk ?kl ?km ?kn ?_; (case ka => walk_at "mA"); (case kb => walk_at "mA"); (case kc => walk_at "mA"); (case kd => walk_at "mA"); (case ke => walk_at "mA"); (case kf => walk_at "mK"); (case kg => ktr_room); (case kh => ktr_units); (case ki => walk_at "mM"); (case kj => walk_at "mM"); (case kk => walk_at "mA"); (case kl => walk_at "mA"); (case km => walk_at "mU"); (case kn => walk_at "mA")); intro h9 tk9 es9 n9 T9 F9 N9 nd9; (try dsimp only at N9 nd9)))
section
variable {w : World} {rest : List (Addr × Obj)} {x dx : Addr} {f : Str → Option (Option Value)} {a : SA} {es : List DictEntry} {n k1 k2 k3 k4 k5 : Nat} {e : Value} {u d : Str}
theorem ct_free (T : TD f es e u d) (S2 : St2 f a) (nd : (adrs ((x, instObj 522 dx) :: (dx, dictOf es n) :: (a.rR, listOf #[] k1) :: (a.bc, listOf #[] k2) :: (a.ac, listOf #[] k3) :: (a.ba, listOf #[] k4) :: (a.aa, listOf #[] k5) :: rest)).Nodup) : Ct w 4 471 [.ref x] ((x, instObj 522 dx) :: (dx, dictOf es n) :: (a.rR, listOf #[] k1) :: (a.bc, listOf #[] k2) :: (a.ac, listOf #[] k3) :: (a.ba, listOf #[] k4) :: (a.aa, listOf #[] k5) :: rest) fun r l => r = .none ∧ ∃ f' es' n' k1' k2' k3' k4' k5', TD f' es' .none u d ∧ l = ((x, instObj 522 dx) :: (dx, dictOf es' n') :: (a.rR, listOf #[] k1') :: (a.bc, listOf #[] k2') :: (a.ac, listOf #[] k3') :: (a.ba, listOf #[] k4') :: (a.aa, listOf #[] k5') :: rest) := by
  unfold Ct
  intros
  rename_i hret
  k_dflt (refine' code_def (binds := [(Str.ofString "self", .ref x)]) ?k1 ?k2 ?k3 ?k4 ?k5 ?kA ?kF ?kK ?k6 ?k7 ?k8 ?k9 ?kB ?_ ?c2 ?c3 ?c4 ?c5; (case kA => exact rfl); (case kF => exact rfl); (case kK => assumption); (case k1 => k_asm); (case k2 => k_asm); (case k3 => k_asm); (case k4 => k_asm); (case k5 => k_asm); (case k6 => k_is); (case k7 => k_is); (case k8 => ktr_room); (case k9 => walk_at "mBind"); (case c5 => decide); (case kB => exact locs rfl); (case c2 => exact rfl); (case c3 => exact rfl); (case c4 => exact rfl); k_whole; intro g' L' h' FG' F' N' B' X' T'; (try dsimp only); (try simp only [List.reverse_cons, List.reverse_nil, List.nil_append, List.cons_append] at F'); (try k_fold))
  k_steps
  exact hret _ _ _ _ ⟨rfl, _, _, _, _, _, _, _, _, by assumption, rfl⟩ (by assumption) (News.tail' (News.tail' (News.tail' (News.tail' (News.tail' (by assumption))))))
end


end Mine
/- part CN -/
set_option Elab.async false
set_option maxRecDepth 100000
set_option maxHeartbeats 8000000
namespace Mine
theorem fill_aCN : PySem.Challenge.rw_ft5041_01 = PySem.Challenge.rw_ft5041_01 ∧ Mine.hd.heap_39 = Mine.hd.heap_39 := by
  k_fill
  exact ⟨rfl, rfl⟩
theorem nd_cell {g h : Heap} {L' : Addr} {o : Obj} {news : List (Addr × Obj)} (_N : News g L' h ((L' + 1, o) :: news)) (l1 : ∀ p ∈ news, p.1 < L') (nd : (adrs news).Nodup) : (adrs ((L' + 1, o) :: news)).Nodup :=
  nd_cons (fun p hp => Nat.lt_succ_of_lt (l1 p hp)) nd
theorem cw_kwM {M : Model} {A : Around} {E : Value → Shared → Prop} {s : Shared} {env : Env} {pos : Pos} {id : String} {first : List Value} {kws : List Keyword} {Q : Value → Shared → Prop}
    (h : wpAny M A (evalAll ((backToKw pos (keywordEach kws env)).map (·.2))) (fun ks s₂ => wpAny M A (PySem.call (.builtin id) (first ++ []) (((backToKw pos (keywordEach kws env)).filterMap (·.1)).zip ks)) Q E s₂) E s)
    (hall : (backToKw pos (keywordEach kws env)).all (·.1.isSome) = true := by rfl)
    (hkw : (backToKw pos (keywordEach kws env)).any (·.1.isNone) = false := by rfl) :
    wpAny M A (callWith pos (.builtin id) first (backTo pos (starEach [] env)) (backToKw pos (keywordEach kws env))) Q E s :=
  callWith_builtin_kwB rfl hkw (evalArgs_kw2_nil hall h)
theorem for_F {prog : Program} {w : World} {A : Around} {s : Shared} {env : Env} {h₀ : Heap} {L : Addr} {m : Str → Option Value} {E : Value → Shared → Prop} {Q : Flow → Shared → Prop} {x : Str} {px pos : Pos} {iter : PySem.Expr} {body : List Stmt} (_F : Fr h₀ L s.heap m) (hx : env.kindOf x = some .local)
    (hp : (env.scope.kind == .class || (env.scope.kind == .module && env.locals != env.globals)) = false) (hE : PassesOwn (model prog w) A env E) (hs : ∀ x, foldedSetIterable iter env x = pure x)
    (h : wpAny (model prog w) A (eval iter env) (fun xv s₁ => wpAny (model prog w) A (pyIter xv) (fun it s₂ => LoopAtV prog w A h₀ env x body Q E it s₂) E s₁) E s) :
    wpAny (model prog w) A (exec (.For (.Name x px) iter body [] pos) env) Q E s := For_invV h₀ hx hp h hs hE
local macro_rules | `(tactic| walk_at "mBind") => `(tactic| (refine' binds_K ?x1 ?x2 ?x3 ?x4 ?x5 ?x6; (case x1 => k_in); (case x2 => rfl); (case x3 => k_is); (case x4 => rfl); (case x5 => rfl); (case x6 => rfl)))
local macro_rules | `(tactic| walk_at "mBind") => `(tactic| exact BindsTo.of_eq rfl)
local macro_rules | `(tactic| walk_at "mA") => `(tactic| with_reducible assumption)
local macro_rules | `(tactic| walk_at "mK") => `(tactic| first | with_reducible assumption | rfl)
local macro_rules | `(tactic| walk_at "mM") => `(tactic| first | with_reducible assumption | with_reducible exact List.mem_cons_self | (with_reducible refine List.mem_cons_of_mem _ ?_; walk_at "mM") | (with_reducible refine List.mem_append_right _ ?_; walk_at "mM"))
local macro_rules | `(tactic| walk_at "mU") => `(tactic| first | with_reducible exact upd_hd (by with_reducible assumption) | (with_reducible refine' upd_tl2 ?u1 ?u2 ?u3; (case u2 => walk_at "mM"); (case u1 => with_reducible assumption); (case u3 => intro nd8; walk_at "mU")))
local macro_rules | `(tactic| walk_at "mND") => `(tactic| first | with_reducible assumption | k_dflt decide)
local macro_rules | `(tactic| walk_at "newList") => `(tactic| (k_here; k_dflt (refine' m_list ?k1 ?k2 ?k3 ?_; (case k1 => walk_at "mA"); (case k2 => walk_at "mA"); (case k3 => walk_at "mND")); intro l9 h9 F9 N9 nd9))
local macro_rules | `(tactic| walk_at "eval Dict nil nil") => `(tactic| (k_here; k_dflt (refine' m_dict0 ?k1 ?k2 ?k3 ?k4 ?_; (case k1 => walk_at "mA"); (case k2 => walk_at "mA"); (case k3 => exact Top.nolimit (by walk_at "mA")); (case k4 => walk_at "mND")); intro d9 h9 o9 F9 N9 nd9 sm9 hd9))
local macro_rules | `(tactic| walk_at "mHU") => `(tactic| first | decide | exact Nat.le_of_ble_eq_true rfl)
local macro_rules | `(tactic| walk_at "mW") => `(tactic| with_reducible assumption)
local macro_rules | `(tactic| k_mem) => `(tactic| walk_at "mM")
local macro_rules | `(tactic| k_updF) => `(tactic| walk_at "mU")
local macro_rules | `(tactic| walk_at "mFL") => `(tactic| first | with_reducible assumption | with_reducible exact St2.manager (by with_reducible assumption) | with_reducible exact St2.ad (by with_reducible assumption) | with_reducible exact St2.resources (by with_reducible assumption) | with_reducible exact St2.voted (by with_reducible assumption) | with_reducible exact St2.bc (by with_reducible assumption) | with_reducible exact St2.ac (by with_reducible assumption) | with_reducible exact St2.ba (by with_reducible assumption) | with_reducible exact St2.aa (by with_reducible assumption) | with_reducible exact St2.syn (by with_reducible assumption) | ((show (if _ = _ then _ else _) = _); rw [if_neg (by decide)]; walk_at "mFL"))
local macro_rules | `(tactic| walk_at "getAttr ref") => `(tactic| (k_here; (with_reducible show wpAny _ _ (getAttr (Value.ref _) _ _) _ _ _); k_dflt (refine' t_getL ?ka ?kb ?kc ?kd ?ke ?kf ?kg ?kh ?ki ?kj ?kk ?kl ?km ?kn ?ko ?_; (case ka => walk_at "mA"); (case kb => walk_at "mA"); (case kc => walk_at "mA"); (case kd => walk_at "mM"); (case ke => walk_at "mM"); (case kf => walk_at "mA"); (case kg => walk_at "mFL"); (case kh => decide +kernel); (case ki => decide +kernel); (case kj => decide +kernel); (case kk => k_is); (case kl => k_is); (case km => k_is); (case kn => k_is); (case ko => rfl))))
local macro_rules | `(tactic| walk_at "getAttr ref") => `(tactic| (k_here; (with_reducible show wpAny _ _ (getAttr (Value.ref _) _ _) _ _ _); k_dflt (refine' a_getL ?ka ?kb ?kc ?kd ?ke ?kf ?kg ?kh ?ki ?kj ?kk ?kl ?_; (case ka => walk_at "mA"); (case kb => walk_at "mA"); (case kc => walk_at "mA"); (case kd => walk_at "mM"); (case ke => walk_at "mM"); (case kf => walk_at "mW"); (case kg => rfl); (case kh => k_is); (case ki => k_is); (case kj => k_is); (case kk => k_is); (case kl => rfl))))
local macro_rules | `(tactic| walk_at "getAttr ref") => `(tactic| (k_here; (with_reducible show wpAny _ _ (getAttr (Value.ref _) (PySem.Str.ofString "_savepoint2index") _) _ _ _); k_dflt (refine' t_cls ?ka ?kb ?kc ?kd ?ke ?kf ?_; (case ka => walk_at "mA"); (case kb => walk_at "mA"); (case kc => walk_at "mA"); (case kd => walk_at "mM"); (case ke => walk_at "mM"); (case kf => walk_at "mA"))))
local macro_rules | `(tactic| walk_at "getMethod ref") => `(tactic| (k_here; (with_reducible show wpAny _ _ (getMethod (Value.ref _) _ _) _ _ _); k_dflt (refine' t_meth ?ka ?kb ?kc ?kd ?ke ?kf ?kg ?kh ?ki ?kj ?_; (case ka => walk_at "mA"); (case kb => walk_at "mA"); (case kc => walk_at "mA"); (case kd => walk_at "mM"); (case ke => walk_at "mM"); (case kf => walk_at "mA"); (case kg => decide +kernel); (case kh => k_is); (case ki => k_is); (case kj => k_is))))
local macro_rules | `(tactic| walk_at "getMethod ref") => `(tactic| (k_here; (with_reducible show wpAny _ _ (getMethod (Value.ref _) _ _) _ _ _); k_dflt (refine' a_meth ?ka ?kb ?kc ?kd ?ke ?kf ?kg ?kh ?ki ?kj ?_; (case ka => walk_at "mA"); (case kb => walk_at "mA"); (case kc => walk_at "mA"); (case kd => walk_at "mM"); (case ke => walk_at "mM"); (case kf => walk_at "mW"); (case kg => rfl); (case kh => k_is); (case ki => k_is); (case kj => k_is))))
local macro_rules | `(tactic| walk_at "setAttr ref") => `(tactic| (k_here; (with_reducible show wpAny _ _ (setAttr (Value.ref _) _ _) _ _ _); k_dflt (refine' t_setL ?ka ?kb ?kc ?kd ?ke ?kf ?kg ?kh ?ki ?kj ?kk ?kl ?km ?kn ?ko ?kp ?kq ?_; (case ka => walk_at "mA"); (case kb => walk_at "mA"); (case kc => walk_at "mA"); (case kd => walk_at "mM"); (case ke => walk_at "mM"); (case kf => walk_at "mA"); (case kg => walk_at "mU"); (case kh => walk_at "mA"); (case ki => walk_at "mFL"); (case kj => decide +kernel); (case kk => decide +kernel); (case kl => decide +kernel); (case km => decide +kernel); (case kn => k_is); (case ko => k_is); (case kp => k_is); (case kq => k_is)); intro h9 es9 n9 T9 F9 N9 nd9; (try dsimp only at N9 nd9)))
local macro_rules | `(tactic| walk_at "setAttr ref") => `(tactic| (k_here; (with_reducible show wpAny _ _ (setAttr (Value.ref _) (PySem.Str.ofString "extension") _) _ _ _); k_dflt (refine' m_setExt ?ka ?kb ?kc ?kd ?ke ?kf ?kg ?kh ?_; (case ka => walk_at "mA"); (case kb => walk_at "mA"); (case kc => walk_at "mA"); (case kd => walk_at "mM"); (case ke => walk_at "mM"); (case kf => walk_at "mA"); (case kg => walk_at "mU"); (case kh => walk_at "mA")); intro h9 es9 n9 T9 F9 N9 nd9; (try dsimp only at N9 nd9)))
local macro_rules | `(tactic| walk_at "call type:list") => `(tactic| (k_here; (with_reducible show wpAny _ _ (call (Value.type _) [Value.ref _]) _ _ _); k_dflt (refine' m_copyN ?ka ?kb ?kc ?_; (case ka => walk_at "mA"); (case kb => walk_at "mA"); (case kc => walk_at "mM")); intro c9 cn9 h9 F9 N9; (try dsimp only at N9 nd9)))
local macro_rules | `(tactic| walk_at "call type:list") => `(tactic| (k_here; (with_reducible show wpAny _ _ (call (Value.type _) [Value.ref _]) _ _ _); k_dflt (refine' m_copy ?ka ?kb ?kc ?kd ?_; (case ka => walk_at "mA"); (case kb => walk_at "mA"); (case kc => walk_at "mM"); (case kd => walk_at "mA")); intro c9 cn9 h9 F9 N9 nd9; (try dsimp only at N9 nd9)))
local macro_rules | `(tactic| walk_at "truthy ref") => `(tactic| (k_here; (with_reducible show wpAny _ _ (truthy (Value.ref _)) _ _ _); k_dflt (refine' m_truth ?ka ?kb ?_; (case ka => walk_at "mA"); (case kb => walk_at "mM"))))
local macro_rules | `(tactic| walk_at "pyIter ref") => `(tactic| (k_here; (with_reducible show wpAny _ _ (pyIter (Value.ref _)) (fun it s₂ => LoopAtV _ _ _ _ _ _ _ _ _ it s₂) _ _); k_dflt (refine' m_iter0 ?ka ?kb ?kc ?kd ?ke ?_; (case ka => rfl); (case kb => walk_at "mA"); (case kc => walk_at "mA"); (case kd => walk_at "mM"); (case ke => rfl)); intro h9 tk9 F9 N9; (try dsimp only)))
local macro_rules | `(tactic| walk_at "exec For") => `(tactic| (k_here; (with_reducible show wpAny _ _ (exec (Stmt.For (Expr.Name _ _) _ _ [] _) _) _ _ _); k_dflt (refine' for_F ?a ?b ?c ?d ?e ?_; (case a => walk_at "mA"); (case b => rfl); (case c => rfl); (case d => passes_own); (case e => (intro _; rfl)))))
local macro_rules | `(tactic| walk_at "exec Try") => `(tactic| (k_here; (with_reducible show wpAny _ _ (exec (Stmt.Try _ (_ :: _) _ [] _) _) _ _ _); k_dflt (refine wpAny_Try_except ?_)))
local macro_rules | `(tactic| walk_at "callWith") => `(tactic| (k_here; (with_reducible show wpAny _ _ (callWith _ (Value.builtin "list.sort") [_] _ _) _ _ _); k_dflt (refine cw_kwM ?_)))
local macro_rules | `(tactic| walk_at "call ref") => `(tactic| (k_here; (with_reducible show wpAny _ _ (PySem.call (Value.ref 140) _ _) _ _ _); k_dflt (refine' s_awl ?ka ?kb ?kc ?kd ?ke ?kf ?kg ?kh ?ki ?kj ?kk ?kl ?_; (case ka => walk_at "mA"); (case kb => walk_at "mA"); (case kc => walk_at "mA"); (case kd => walk_at "mA"); (case ke => walk_at "mA"); (case kf => walk_at "mK"); (case kg => ktr_room); (case kh => ktr_units); (case ki => walk_at "mM"); (case kj => walk_at "mM"); (case kk => walk_at "mM"); (case kl => walk_at "mA")); intro c9 cn9 h9 tk9 F9 N9; (try dsimp only at N9)))
local macro_rules | `(tactic| walk_at "call ref") => `(tactic| (k_here; (with_reducible show wpAny _ _ (PySem.call (Value.ref 399) _ _) _ _ _); k_dflt (first | (refine' s_hk0 ?ka ?kb ?kc ?kd ?ke ?kf ?kg ?kh ?ki ?_; (case ka => walk_at "mA"); (case kb => walk_at "mA"); (case kc => walk_at "mA"); (case kd => walk_at "mA"); (case ke => walk_at "mA"); (case kf => walk_at "mK"); (case kg => ktr_room); (case kh => ktr_units); (case ki => walk_at "mM"); intro h9 tk9 F9 N9; (try dsimp only at N9)) | (refine' s_hk1 ?ka ?kb ?kc ?kd ?ke ?kf ?kg ?kh ?ki ?_; (case ka => walk_at "mA"); (case kb => walk_at "mA"); (case kc => walk_at "mA"); (case kd => walk_at "mA"); (case ke => walk_at "mA"); (case kf => walk_at "mK"); (case kg => ktr_room); (case kh => ktr_units); (case ki => walk_at "mM"); intro h9 tk9 F9 N9; (try dsimp only at N9)) | (refine' s_hk2 ?ka ?kb ?kc ?kd ?ke ?kf ?kg ?kh ?ki ?_; (case ka => walk_at "mA"); (case kb => walk_at "mA"); (case kc => walk_at "mA"); (case kd => walk_at "mA"); (case ke => walk_at "mA"); (case kf => walk_at "mK"); (case kg => ktr_room); (case kh => ktr_units); (case ki => walk_at "mM"); intro h9 tk9 F9 N9; (try dsimp only at N9)) | (refine' s_hk3 ?ka ?kb ?kc ?kd ?ke ?kf ?kg ?kh ?ki ?_; (case ka => walk_at "mA"); (case kb => walk_at "mA"); (case kc => walk_at "mA"); (case kd => walk_at "mA"); (case ke => walk_at "mA"); (case kf => walk_at "mK"); (case kg => ktr_room); (case kh => ktr_units); (case ki => walk_at "mM"); intro h9 tk9 F9 N9; (try dsimp only at N9)))))
local macro_rules | `(tactic| walk_at "mU") => `(tactic| with_reducible assumption)
local macro_rules | `(tactic| walk_at "eval Slice") => `(tactic| (k_here; (with_reducible show wpAny _ _ (eval (Expr.Slice none none none _) _) _ _ _); k_dflt (refine' m_slice ?ka ?kb ?kc ?_; (case ka => walk_at "mA"); (case kb => walk_at "mA"); (case kc => walk_at "mA")); intro sl9 h9 F9 N9 nd9; (try dsimp only at N9 nd9)))
local macro_rules | `(tactic| walk_at "delItem ref ref") => `(tactic| (k_here; (with_reducible show wpAny _ _ (delItem (Value.ref _) (Value.ref _)) _ _ _); k_dflt (refine' m_delAll ?ka ?kb ?kc ?kd ?ke ?kf ?_; (case ka => walk_at "mA"); (case kb => walk_at "mA"); (case kc => walk_at "mM"); (case kd => walk_at "mM"); (case ke => walk_at "mU"); (case kf => walk_at "mA")); intro h9 dn9 F9 N9 nd9; (try dsimp only at N9 nd9)))
local macro_rules | `(tactic| walk_at "call builtin:hasattr") => `(tactic| (k_here; (with_reducible show wpAny _ _ (PySem.call (Value.builtin "hasattr") [Value.ref _, Value.str _ _]) _ _ _); k_dflt (refine' t_hasattr ?ka ?kb ?kc ?kd ?ke ?kf ?kg ?_; (case ka => rfl); (case kb => walk_at "mA"); (case kc => walk_at "mA"); (case kd => walk_at "mA"); (case ke => walk_at "mM"); (case kf => walk_at "mM"); (case kg => walk_at "mA")); intro h9 tk9 F9 N9; (try dsimp only at N9 nd9)))
local macro_rules | `(tactic| walk_at "call ref") => `(tactic| (k_here; (with_reducible show wpAny _ _ (PySem.call (Value.ref 464) _ _) _ _ _); k_dflt (refine' s_fm ?ka ?kb ?kc ?kd ?ke ?kf ?kg ?kh ?ki ?kj ?kk ?kl ?km ?kn ?_; (case ka => walk_at "mA"); (case kb => walk_at "mA"); (case kc => walk_at "mA"); (case kd => walk_at "mA"); (case ke => walk_at "mA"); (case kf => walk_at "mK"); (case kg => ktr_room); (case kh => ktr_units); (case ki => walk_at "mM"); (case kj => walk_at "mM"); (case kk => walk_at "mA"); (case kl => walk_at "mA"); (case km => walk_at "mU"); (case kn => walk_at "mA")); intro h9 tk9 es9 n9 T9 F9 N9 nd9; (try dsimp only at N9 nd9)))
local macro_rules | `(tactic| walk_at "call builtin:list.sort") => `(tactic| (k_here; (k_dflt (show wpAny _ _ (PySem.call (Value.builtin "list.sort") [Value.ref _] [(PySem.Str.ofString "key", Value.ref _)]) _ _ _)); k_dflt (refine' s_sort0 ?ka ?kb ?kc ?_; (case ka => walk_at "mA"); (case kb => walk_at "mA"); (case kc => walk_at "mA")); intro h9 tk9 sn9 F9 N9 nd9; (try dsimp only at N9 nd9)))
section
variable {w : World} {news rest : List (Addr × Obj)} {x dx : Addr} {f : Str → Option (Option Value)} {a : SA} {es : List DictEntry} {n k : Nat} {e : Value} {u d : Str} {g : Obj → List (Addr × Obj)}
theorem ct_cres (hx : (x, instObj 522 dx) ∈ news) (hd : (dx, dictOf es n) ∈ news) (T : TD f es e u d) (S2 : St2 f a) (hr : (a.rR, listOf #[] k) ∈ news) (nd : (adrs news).Nodup) : Ct w 3 452 [.ref x] news fun r l => r = .none ∧ l = news := by
  unfold Ct
  intros
  rename_i hret
  k_dflt (refine' code_defC (binds := [(Str.ofString "self", .ref x)]) ?k1 ?k2 ?k3 ?k4 ?k5 ?kA ?kF ?kK ?k6 ?k7 ?k8 ?k9 ?kB ?kD ?_ ?c2 ?c3 ?c4; (case kA => exact rfl); (case kF => exact rfl); (case kK => assumption); (case k1 => k_asm); (case k2 => k_asm); (case k3 => k_asm); (case k4 => k_asm); (case k5 => k_asm); (case k6 => k_is); (case k7 => k_is); (case k8 => ktr_room); (case k9 => walk_at "mBind"); (case kD => decide +kernel); (case kB => exact rfl); (case c2 => exact rfl); (case c3 => exact rfl); (case c4 => exact rfl); k_whole; intro g' L' h' tk' cells' FG' F' N' Y' B' X' T' l1; k_cells Y'; (try simp only [List.cons_append, List.nil_append] at N'); (try dsimp only); (try k_fold))
  have ndC := nd_cell N' l1 nd
  k_steps
  exact hret _ _ _ _ ⟨rfl, rfl⟩ (by assumption) (News.tail' (News.tail' (by assumption)))
end
section
variable {w : World} {news : List (Addr × Obj)} {p : Program} {loose : List Str} {mean : ExcName → Option Value} {mg mb : Str → Option Value} {dp un : Nat} {gd : Option (List Code)} {cn : Str} {cs : Scope} {a : Addr} {ccd : Value} {cl : List (Str × Addr)} {outer : List Env}
    {A₀ : Around} {base h₀ : Heap} {L : Addr} {m : Str → Option Value} {s : Shared} {E : Value → Shared → Prop}
theorem s_cbh {x dx : Addr} {f : Str → Option (Option Value)} {sa : SA} {es : List DictEntry} {n k : Nat} {e : Value} {u d : Str} (B : Below A₀ base outer h₀) (F : Fr h₀ L s.heap m) (X : (Mine.hd.heap_39 w.params).In h₀) (N : News h₀ L s.heap news) (T' : Top p loose mean mg mb h₀) (hk : cs.kind = .function) (hd' : dp + 2 * 3 < recursionLimit) (hu : un + 0 + 10 * 3 < cLine) (hx : (x, instObj 522 dx) ∈ news) (hdx : (dx, dictOf es n) ∈ news) (T : TD f es e u d) (S2 : St2 f sa) (hm : (sa.bc, listOf #[] k) ∈ news) {Q : Value → Shared → Prop} (h : ∀ h' tk', Fr h₀ L h' m → News h₀ L h' news → Q .none { s with heap := h', toks := tk' }) :
    wpAny (model PR w) (ktrTop dp un gd cn cs L a ccd cl outer) (PySem.call (.ref 366) [.ref x]) Q E s :=
  (ct_cbh hx hdx T S2 hm).call B F X N T' hk hd' hu fun _ _ h' tk' ⟨hr, hl⟩ F' N' => by
    subst hr hl
    exact h h' tk' F' N'
theorem s_bah {x dx : Addr} {f : Str → Option (Option Value)} {sa : SA} {es : List DictEntry} {n k : Nat} {e : Value} {u d : Str} (B : Below A₀ base outer h₀) (F : Fr h₀ L s.heap m) (X : (Mine.hd.heap_39 w.params).In h₀) (N : News h₀ L s.heap news) (T' : Top p loose mean mg mb h₀) (hk : cs.kind = .function) (hd' : dp + 2 * 3 < recursionLimit) (hu : un + 0 + 10 * 3 < cLine) (hx : (x, instObj 522 dx) ∈ news) (hdx : (dx, dictOf es n) ∈ news) (T : TD f es e u d) (S2 : St2 f sa) (hm : (sa.ba, listOf #[] k) ∈ news) {Q : Value → Shared → Prop} (h : ∀ h' tk', Fr h₀ L h' m → News h₀ L h' news → Q .none { s with heap := h', toks := tk' }) :
    wpAny (model PR w) (ktrTop dp un gd cn cs L a ccd cl outer) (PySem.call (.ref 422) [.ref x]) Q E s :=
  (ct_bah hx hdx T S2 hm).call B F X N T' hk hd' hu fun _ _ h' tk' ⟨hr, hl⟩ F' N' => by
    subst hr hl
    exact h h' tk' F' N'
theorem s_aah {x dx : Addr} {f : Str → Option (Option Value)} {sa : SA} {es : List DictEntry} {n k : Nat} {e : Value} {u d : Str} (B : Below A₀ base outer h₀) (F : Fr h₀ L s.heap m) (X : (Mine.hd.heap_39 w.params).In h₀) (N : News h₀ L s.heap news) (T' : Top p loose mean mg mb h₀) (hk : cs.kind = .function) (hd' : dp + 2 * 3 < recursionLimit) (hu : un + 0 + 10 * 3 < cLine) (hx : (x, instObj 522 dx) ∈ news) (hdx : (dx, dictOf es n) ∈ news) (T : TD f es e u d) (S2 : St2 f sa) (hm : (sa.aa, listOf #[] k) ∈ news) {Q : Value → Shared → Prop} (h : ∀ h' tk', Fr h₀ L h' m → News h₀ L h' news → Q .none { s with heap := h', toks := tk' }) :
    wpAny (model PR w) (ktrTop dp un gd cn cs L a ccd cl outer) (PySem.call (.ref 445) [.ref x]) Q E s :=
  (ct_aah hx hdx T S2 hm).call B F X N T' hk hd' hu fun _ _ h' tk' ⟨hr, hl⟩ F' N' => by
    subst hr hl
    exact h h' tk' F' N'
theorem s_ach {x dx : Addr} {f : Str → Option (Option Value)} {sa : SA} {es : List DictEntry} {n k : Nat} {e : Value} {u d : Str} (B : Below A₀ base outer h₀) (F : Fr h₀ L s.heap m) (X : (Mine.hd.heap_39 w.params).In h₀) (N : News h₀ L s.heap news) (T' : Top p loose mean mg mb h₀) (hk : cs.kind = .function) (hd' : dp + 2 * 3 < recursionLimit) (hu : un + 0 + 10 * 3 < cLine) (hx : (x, instObj 522 dx) ∈ news) (hdx : (dx, dictOf es n) ∈ news) (T : TD f es e u d) (S2 : St2 f sa) (hm : (sa.ac, listOf #[] k) ∈ news) {Q : Value → Shared → Prop} (h : ∀ h' tk', Fr h₀ L h' m → News h₀ L h' news → Q .none { s with heap := h', toks := tk' }) :
    wpAny (model PR w) (ktrTop dp un gd cn cs L a ccd cl outer) (PySem.call (.ref 390) [.ref x] [(Str.ofString "status", .bool true)]) Q E s :=
  (ct_ach hx hdx T S2 hm).call B F X N T' hk hd' hu fun _ _ h' tk' ⟨hr, hl⟩ F' N' => by
    subst hr hl
    exact h h' tk' F' N'
theorem s_cres {x dx : Addr} {f : Str → Option (Option Value)} {sa : SA} {es : List DictEntry} {n k : Nat} {e : Value} {u d : Str} (B : Below A₀ base outer h₀) (F : Fr h₀ L s.heap m) (X : (Mine.hd.heap_39 w.params).In h₀) (N : News h₀ L s.heap news) (T' : Top p loose mean mg mb h₀) (hk : cs.kind = .function) (hd' : dp + 2 * 3 < recursionLimit) (hu : un + 0 + 10 * 3 < cLine) (hx : (x, instObj 522 dx) ∈ news) (hdx : (dx, dictOf es n) ∈ news) (T : TD f es e u d) (S2 : St2 f sa) (hm : (sa.rR, listOf #[] k) ∈ news) (nd : (adrs news).Nodup) {Q : Value → Shared → Prop} (h : ∀ h' tk', Fr h₀ L h' m → News h₀ L h' news → Q .none { s with heap := h', toks := tk' }) :
    wpAny (model PR w) (ktrTop dp un gd cn cs L a ccd cl outer) (PySem.call (.ref 452) [.ref x]) Q E s :=
  (ct_cres hx hdx T S2 hm nd).call B F X N T' hk hd' hu fun _ _ h' tk' ⟨hr, hl⟩ F' N' => by
    subst hr hl
    exact h h' tk' F' N'
theorem s_map {ws wd wl : Addr} {wes : List DictEntry} {wn k : Nat} {fv : Value} (B : Below A₀ base outer h₀) (F : Fr h₀ L s.heap m) (X : (Mine.hd.heap_39 w.params).In h₀) (N : News h₀ L s.heap news) (T' : Top p loose mean mg mb h₀) (hk : cs.kind = .function) (hd' : dp + 2 * 4 < recursionLimit) (hu : un + 0 + 10 * 4 < cLine) (hws : (ws, instObj 143 wd) ∈ news) (hwd : (wd, dictOf wes wn) ∈ news) (hwl : (wl, listOf #[] k) ∈ news) (W : AD [(Str.ofString "data", .ref wl)] wes) {Q : Value → Shared → Prop} (h : ∀ h' tk', Fr h₀ L h' m → News h₀ L h' news → Q .none { s with heap := h', toks := tk' }) :
    wpAny (model PR w) (ktrTop dp un gd cn cs L a ccd cl outer) (PySem.call (.ref 133) [.ref ws, fv]) Q E s :=
  (ct_map hws hwd hwl W).call B F X N T' hk hd' hu fun _ _ h' tk' ⟨hr, hl⟩ F' N' => by
    subst hr hl
    exact h h' tk' F' N'
theorem s_free {rest : List (Addr × Obj)} {x dx : Addr} {f : Str → Option (Option Value)} {sa : SA} {es : List DictEntry} {n k1 k2 k3 k4 k5 : Nat} {e : Value} {u d : Str} (B : Below A₀ base outer h₀) (F : Fr h₀ L s.heap m) (X : (Mine.hd.heap_39 w.params).In h₀) (N : News h₀ L s.heap ((x, instObj 522 dx) :: (dx, dictOf es n) :: (sa.rR, listOf #[] k1) :: (sa.bc, listOf #[] k2) :: (sa.ac, listOf #[] k3) :: (sa.ba, listOf #[] k4) :: (sa.aa, listOf #[] k5) :: rest)) (T' : Top p loose mean mg mb h₀) (hk : cs.kind = .function) (hd' : dp + 2 * 4 < recursionLimit) (hu : un + 0 + 10 * 4 < cLine) (T : TD f es e u d) (S2 : St2 f sa) (nd : (adrs ((x, instObj 522 dx) :: (dx, dictOf es n) :: (sa.rR, listOf #[] k1) :: (sa.bc, listOf #[] k2) :: (sa.ac, listOf #[] k3) :: (sa.ba, listOf #[] k4) :: (sa.aa, listOf #[] k5) :: rest)).Nodup) {Q : Value → Shared → Prop}
    (h : ∀ h' tk' f' es' n' k1' k2' k3' k4' k5', TD f' es' .none u d → Fr h₀ L h' m → News h₀ L h' ((x, instObj 522 dx) :: (dx, dictOf es' n') :: (sa.rR, listOf #[] k1') :: (sa.bc, listOf #[] k2') :: (sa.ac, listOf #[] k3') :: (sa.ba, listOf #[] k4') :: (sa.aa, listOf #[] k5') :: rest) → Q .none { s with heap := h', toks := tk' }) :
    wpAny (model PR w) (ktrTop dp un gd cn cs L a ccd cl outer) (PySem.call (.ref 471) [.ref x]) Q E s :=
  (ct_free T S2 nd).call B F X N T' hk hd' hu fun _ _ h' tk' ⟨hr, f', es', n', k1', k2', k3', k4', k5', T2, hl⟩ F' N' => by
    subst hr hl
    exact h h' tk' f' es' n' k1' k2' k3' k4' k5' T2 F' N'
end
theorem keep_ends {h₀ h : Heap} {L : Addr} {a1 a2 b1 b2 b3 b4 b5 c1 c2 c3 t : Addr × Obj} {rest : List (Addr × Obj)} (N : News h₀ L h (a1 :: a2 :: b1 :: b2 :: b3 :: b4 :: b5 :: c1 :: c2 :: c3 :: t :: rest)) : News h₀ L h (a1 :: a2 :: t :: rest) := fun p hp => by
  rcases List.mem_cons.mp hp with rfl | hp
  · exact N _ (.head _)
  rcases List.mem_cons.mp hp with rfl | hp
  · exact N _ (.tail _ (.head _))
  exact N _ (.tail _ (.tail _ (.tail _ (.tail _ (.tail _ (.tail _ (.tail _ (.tail _ (.tail _ (.tail _ hp))))))))))
theorem lt_of_adrs {l l' : List (Addr × Obj)} {c : Addr} (e : adrs l' = adrs l) (h : ∀ q ∈ l, q.1 < c) : ∀ q ∈ l', q.1 < c := fun q hq => by
  have : q.1 ∈ adrs l' := List.mem_map_of_mem (f := (·.1)) hq
  rw [e] at this
  obtain ⟨p, hp, ep⟩ := List.mem_map.mp this
  rw [← ep]; exact h p hp
theorem m_lam {M : Model} {A : Around} {E : Value → Shared → Prop} {s : Shared} {h₀ : Heap} {L a c P : Addr} {m : Str → Option Value} {news : List (Addr × Obj)} {p : Program} {loose : List Str} {mean : ExcName → Option Value} {mg mb : Str → Option Value} {cn : Str} {cs : Scope} {ccd : Value} {cl : List (Str × Addr)} {name qual : Str} {params : Arguments} {body : PySem.Expr} {scope : Scope} {clos : List (Str × Addr)} {pos : Pos} {firstLine : Nat} {ps : Array Value} {g : Obj → List (Addr × Obj)}
    {Q : Value → Shared → Prop} (F : Fr h₀ L s.heap m) (N : News h₀ L s.heap news) (T : Top p loose mean mg mb h₀) (C : CodeHd h₀ c P) (hcd : ccd = .ref c) (U : UpdF P (tabObj ps) news g) (nd : (adrs news).Nodup) (ht : TriplesOk ps.toList) (hnf : codeAmong pos ps.toList = none)
    (hcl : closureFor scope (envX cn cs L a ccd cl) = pure clos)
    (h : ∀ f fo c' oc h' tk, Fr h₀ L h' m → News h₀ L h' ((f, fo) :: (c', oc) :: g (tabObj (ps ++ #[rawInt pos.line, rawInt pos.col, .ref c']))) → (adrs ((f, fo) :: (c', oc) :: g (tabObj (ps ++ #[rawInt pos.line, rawInt pos.col, .ref c'])))).Nodup → Q (.ref f) { s with heap := h', toks := tk }) :
    wpAny M A (makeFunction name qual params (.expr body) scope (envX cn cs L a ccd cl) [] [] [] pos firstLine) Q E s :=
  kla_nest F N T C hcd U ht hnf hcl fun f c' oc vs t ctv h' tk F' N' _ _ l1 l2 => by
    have l3 := lt_of_adrs (updF_adrs U (tabObj (ps ++ #[rawInt pos.line, rawInt pos.col, .ref c']))) l1
    exact h f _ c' oc h' tk F' N' (nd_cons (fun p hp => by
      rcases List.mem_cons.mp hp with rfl | hp
      · exact l2
      · exact Nat.lt_trans (l3 p hp) l2) (nd_cons l3 (by rw [updF_adrs U]; exact nd)))
local macro_rules | `(tactic| walk_at "mS2") => `(tactic| first | with_reducible assumption | ((rename St2 _ _ => zS); with_reducible exact St2.status zS) | ((rename St2 _ _ => zS); with_reducible exact St2.status (St2.status zS)))
local macro_rules | `(tactic| walk_at "mFL") => `(tactic| with_reducible exact if_pos rfl)
local macro_rules | `(tactic| walk_at "mW") => `(tactic| first | with_reducible assumption | with_reducible exact St2.wad (by walk_at "mS2"))
local macro_rules | `(tactic| walk_at "mFL") => `(tactic| first | with_reducible exact St2.syn (by walk_at "mS2") | with_reducible exact St2.resources (by walk_at "mS2") | with_reducible exact St2.bc (by walk_at "mS2") | with_reducible exact St2.ac (by walk_at "mS2") | with_reducible exact St2.ba (by walk_at "mS2") | with_reducible exact St2.aa (by walk_at "mS2"))
local macro_rules | `(tactic| walk_at "mTN") => `(tactic| first | with_reducible assumption | ((rename News _ _ _ _ => NZ); with_reducible exact News.tail' NZ) | ((rename News _ _ _ _ => NZ); with_reducible exact News.tail' (News.tail' NZ)) | ((rename News _ _ _ _ => NZ); with_reducible exact News.tail' (News.tail' (News.tail' NZ))) | ((rename News _ _ _ _ => NZ); with_reducible exact News.tail' (News.tail' (News.tail' (News.tail' NZ)))) | ((rename News _ _ _ _ => NZ); with_reducible exact News.tail' (News.tail' (News.tail' (News.tail' (News.tail' NZ))))) | ((rename News _ _ _ _ => NZ); with_reducible exact News.tail' (News.tail' (News.tail' (News.tail' (News.tail' (News.tail' NZ)))))))
local macro_rules | `(tactic| walk_at "mTD") => `(tactic| first | with_reducible assumption | ((rename List.Nodup _ => NZ); with_reducible exact nd_tl NZ) | ((rename List.Nodup _ => NZ); with_reducible exact nd_tl (nd_tl NZ)) | ((rename List.Nodup _ => NZ); with_reducible exact nd_tl (nd_tl (nd_tl NZ))) | ((rename List.Nodup _ => NZ); with_reducible exact nd_tl (nd_tl (nd_tl (nd_tl NZ)))) | ((rename List.Nodup _ => NZ); with_reducible exact nd_tl (nd_tl (nd_tl (nd_tl (nd_tl NZ))))) | ((rename List.Nodup _ => NZ); with_reducible exact nd_tl (nd_tl (nd_tl (nd_tl (nd_tl (nd_tl NZ)))))))
local macro_rules | `(tactic| walk_at "call ref") => `(tactic| (k_here; (with_reducible show wpAny _ _ (PySem.call (Value.ref 366) _ _) _ _ _); k_dflt (refine' s_cbh ?ka ?kb ?kc ?kd ?ke ?kf ?kg ?kh ?ki ?kj ?kk ?kl ?km ?_; (case ka => walk_at "mA"); (case kb => walk_at "mA"); (case kc => walk_at "mA"); (case kd => walk_at "mA"); (case ke => walk_at "mA"); (case kf => walk_at "mK"); (case kg => ktr_room); (case kh => ktr_units); (case ki => walk_at "mM"); (case kj => walk_at "mM"); (case kk => walk_at "mA"); (case kl => walk_at "mS2"); (case km => walk_at "mM")); intro h9 tk9 F9 N9; (try dsimp only at N9 nd9)))
local macro_rules | `(tactic| walk_at "call ref") => `(tactic| (k_here; (with_reducible show wpAny _ _ (PySem.call (Value.ref 422) _ _) _ _ _); k_dflt (refine' s_bah ?ka ?kb ?kc ?kd ?ke ?kf ?kg ?kh ?ki ?kj ?kk ?kl ?km ?_; (case ka => walk_at "mA"); (case kb => walk_at "mA"); (case kc => walk_at "mA"); (case kd => walk_at "mA"); (case ke => walk_at "mA"); (case kf => walk_at "mK"); (case kg => ktr_room); (case kh => ktr_units); (case ki => walk_at "mM"); (case kj => walk_at "mM"); (case kk => walk_at "mA"); (case kl => walk_at "mS2"); (case km => walk_at "mM")); intro h9 tk9 F9 N9; (try dsimp only at N9 nd9)))
local macro_rules | `(tactic| walk_at "call ref") => `(tactic| (k_here; (with_reducible show wpAny _ _ (PySem.call (Value.ref 445) _ _) _ _ _); k_dflt (refine' s_aah ?ka ?kb ?kc ?kd ?ke ?kf ?kg ?kh ?ki ?kj ?kk ?kl ?km ?_; (case ka => walk_at "mA"); (case kb => walk_at "mA"); (case kc => walk_at "mA"); (case kd => walk_at "mA"); (case ke => walk_at "mA"); (case kf => walk_at "mK"); (case kg => ktr_room); (case kh => ktr_units); (case ki => walk_at "mM"); (case kj => walk_at "mM"); (case kk => walk_at "mA"); (case kl => walk_at "mS2"); (case km => walk_at "mM")); intro h9 tk9 F9 N9; (try dsimp only at N9 nd9)))
local macro_rules | `(tactic| walk_at "call ref") => `(tactic| (k_here; (with_reducible show wpAny _ _ (PySem.call (Value.ref 390) _ _) _ _ _); k_dflt (refine' s_ach ?ka ?kb ?kc ?kd ?ke ?kf ?kg ?kh ?ki ?kj ?kk ?kl ?km ?_; (case ka => walk_at "mA"); (case kb => walk_at "mA"); (case kc => walk_at "mA"); (case kd => walk_at "mA"); (case ke => walk_at "mA"); (case kf => walk_at "mK"); (case kg => ktr_room); (case kh => ktr_units); (case ki => walk_at "mM"); (case kj => walk_at "mM"); (case kk => walk_at "mA"); (case kl => walk_at "mS2"); (case km => walk_at "mM")); intro h9 tk9 F9 N9; (try dsimp only at N9 nd9)))
local macro_rules | `(tactic| walk_at "call ref") => `(tactic| (k_here; (with_reducible show wpAny _ _ (PySem.call (Value.ref 452) _ _) _ _ _); k_dflt (refine' s_cres ?ka ?kb ?kc ?kd ?ke ?kf ?kg ?kh ?ki ?kj ?kk ?kl ?km ?kn ?_; (case ka => walk_at "mA"); (case kb => walk_at "mA"); (case kc => walk_at "mA"); (case kd => walk_at "mA"); (case ke => walk_at "mA"); (case kf => walk_at "mK"); (case kg => ktr_room); (case kh => ktr_units); (case ki => walk_at "mM"); (case kj => walk_at "mM"); (case kk => walk_at "mA"); (case kl => walk_at "mS2"); (case km => walk_at "mM"); (case kn => walk_at "mA")); intro h9 tk9 F9 N9; (try dsimp only at N9 nd9)))
local macro_rules | `(tactic| walk_at "call ref") => `(tactic| (k_here; (with_reducible show wpAny _ _ (PySem.call (Value.ref 464) _ _) _ _ _); k_dflt (refine' s_fm ?ka ?kb ?kc ?kd ?ke ?kf ?kg ?kh ?ki ?kj ?kk ?kl ?km ?kn ?_; (case ka => walk_at "mA"); (case kb => walk_at "mA"); (case kc => walk_at "mA"); (case kd => walk_at "mA"); (case ke => walk_at "mA"); (case kf => walk_at "mK"); (case kg => ktr_room); (case kh => ktr_units); (case ki => walk_at "mM"); (case kj => walk_at "mM"); (case kk => walk_at "mA"); (case kl => walk_at "mS2"); (case km => walk_at "mU"); (case kn => walk_at "mA")); intro h9 tk9 es9 n9 T9 F9 N9 nd9; (try dsimp only at N9 nd9)))
local macro_rules | `(tactic| walk_at "call ref") => `(tactic| (k_here; (with_reducible show wpAny _ _ (PySem.call (Value.ref 133) _ _) _ _ _); k_dflt (refine' s_map ?ka ?kb ?kc ?kd ?ke ?kf ?kg ?kh ?ki ?kj ?kk ?kl ?_; (case ka => walk_at "mA"); (case kb => walk_at "mA"); (case kc => walk_at "mA"); (case kd => walk_at "mA"); (case ke => walk_at "mA"); (case kf => walk_at "mK"); (case kg => ktr_room); (case kh => ktr_units); (case ki => walk_at "mM"); (case kj => walk_at "mM"); (case kl => walk_at "mW"); (case kk => walk_at "mM")); intro h9 tk9 F9 N9; (try dsimp only at N9 nd9)))
local macro_rules | `(tactic| walk_at "call ref") => `(tactic| (k_here; (with_reducible show wpAny _ _ (PySem.call (Value.ref 471) _ _) _ _ _); k_dflt (refine' s_free ?ka ?kb ?kc ?kd ?ke ?kf ?kg ?kh ?ki ?kj ?kk ?_; (case ki => walk_at "mA"); (case kj => walk_at "mS2"); (case ka => walk_at "mA"); (case kb => walk_at "mA"); (case kc => walk_at "mA"); (case kd => walk_at "mTN"); (case ke => walk_at "mA"); (case kf => walk_at "mK"); (case kg => ktr_room); (case kh => ktr_units); (case kk => walk_at "mTD")); intro h9 tk9 f9 es9 n9 p9 q9 r9 s9 t9 T9 F9 N9; (try dsimp only at N9 nd9)))
local macro_rules | `(tactic| walk_at "eval Lambda") => `(tactic| (k_here; k_dflt (refine' kla_eval ?d0 ?_; (case d0 => exact rfl)); k_dflt (refine' m_lam ?F ?N ?T ?C ?cd ?U ?nd ?t ?n ?cl ?_; (case F => k_asm); (case N => k_asm); (case T => k_asm); (case cd => exact rfl); (case C => kn_code); (case U => walk_at "mU"); (case nd => walk_at "mA"); (case t => kn_triples); (case n => kn_among); (case cl => exact rfl)); intro f9 fo9 c9 oc9 h9 tk9 F9 N9 nd9; (try dsimp only at N9 nd9)))
theorem m_isStr {x y : Str} {t u : Tok} {M : Model} {A : Around} {E : Value → Shared → Prop} {s : Shared} {Q : Value → Shared → Prop} (he : compareOp .Is (.str x t) (.str y u) = pure (.bool false)) (h : Q (.bool false) s) : wpAny M A (compareOp .Is (.str x t) (.str y u)) Q E s := wpAny_of_eq he h
local macro_rules | `(tactic| walk_at "compareOp Is str str") => `(tactic| (k_here; (with_reducible show wpAny _ _ (compareOp CmpOp.Is (Value.str _ _) (Value.str _ _)) _ _ _); k_dflt (refine m_isStr (by kernel_rfl) ?_)))
/-- as Ct, the code's head in sight -/
def CtC (w : World) (k : Nat) (f : Addr) (args : List Value) (c P : Addr) (news : List (Addr × Obj)) (R : Value → List (Addr × Obj) → Prop) : Prop :=
  ∀ (p : Program) (loose : List Str) (mean : ExcName → Option Value) (mg mb : Str → Option Value) (dp un : Nat) (gd : Option (List Code)) (cn : Str) (cs : Scope) (a : Addr) (ccd : Value) (cl : List (Str × Addr)) (outer : List Env)
    (A₀ : Around) (base h₀ : Heap) (L : Addr) (m : Str → Option Value) (s : Shared) (Q E : Value → Shared → Prop),
    CodeHd base c P → Below A₀ base outer h₀ → Fr h₀ L s.heap m → (Mine.hd.heap_39 w.params).In h₀ → News h₀ L s.heap news → Top p loose mean mg mb h₀ → cs.kind = .function →
    dp + 2 * k < recursionLimit → un + 10 * k < cLine →
    (∀ (v : Value) (news' : List (Addr × Obj)) (h' : Heap) (tk' : Nat), R v news' → Fr h₀ L h' m → News h₀ L h' news' → Q v { s with heap := h', toks := tk' }) →
      codeAny (model PR w) (ktrTop dp un gd cn cs L a ccd cl outer) (.call (.ref f) ⟨args, []⟩) (fun r s' => match r with | .ok (.ret v) => Q v s' | .ok _ => False | .error e => E e s') s
section
variable {w : World} {rest : List (Addr × Obj)} {x dx : Addr} {f : Str → Option (Option Value)} {sa : SA} {es : List DictEntry} {n k1 k2 k3 k4 k5 k6 : Nat} {e : Value} {u d : Str}
theorem ct_commit (T : TD f es e u d) (S2 : St2 f sa) (hst : f (Str.ofString "status") = some (some (.str (Str.ofString "Active") 381))) (nd : (adrs ((x, instObj 522 dx) :: (dx, dictOf es n) :: (sa.rR, listOf #[] k1) :: (sa.bc, listOf #[] k2) :: (sa.ac, listOf #[] k3) :: (sa.ba, listOf #[] k4) :: (sa.aa, listOf #[] k5) :: (sa.ws, instObj 143 sa.wd) :: (sa.wd, dictOf sa.wes sa.wn) :: (sa.wl, listOf #[] k6) :: (331, tabObj #[]) :: rest)).Nodup) : CtC w 6 336 [.ref x] 335 331 ((x, instObj 522 dx) :: (dx, dictOf es n) :: (sa.rR, listOf #[] k1) :: (sa.bc, listOf #[] k2) :: (sa.ac, listOf #[] k3) :: (sa.ba, listOf #[] k4) :: (sa.aa, listOf #[] k5) :: (sa.ws, instObj 143 sa.wd) :: (sa.wd, dictOf sa.wes sa.wn) :: (sa.wl, listOf #[] k6) :: (331, tabObj #[]) :: rest) fun r l => r = .none ∧ ∃ f' es' n' ps, TD f' es' .none u d ∧ l = (x, instObj 522 dx) :: (dx, dictOf es' n') :: (331, tabObj ps) :: rest := by
  unfold CtC
  intros
  rename_i hret
  k_dflt (refine' code_defC (binds := [(Str.ofString "self", .ref x)]) ?k1 ?k2 ?k3 ?k4 ?k5 ?kA ?kF ?kK ?k6 ?k7 ?k8 ?k9 ?kB ?kD ?_ ?c2 ?c3 ?c4; (case kA => exact rfl); (case kF => exact rfl); (case kK => assumption); (case k1 => k_asm); (case k2 => k_asm); (case k3 => k_asm); (case k4 => k_asm); (case k5 => k_asm); (case k6 => k_is); (case k7 => k_is); (case k8 => ktr_room); (case k9 => walk_at "mBind"); (case kD => decide +kernel); (case kB => exact rfl); (case c2 => exact rfl); (case c3 => exact rfl); (case c4 => exact rfl); k_whole; intro g' L' h' tk' cells' FG' F' N' Y' B' X' T' l1; k_cells Y'; (try simp only [List.cons_append, List.nil_append] at N'); (try dsimp only); (try k_fold))
  have ndC := nd_cell N' l1 nd
  k_steps
  exact hret _ _ _ _ ⟨rfl, _, _, _, _, by assumption, rfl⟩ (by assumption) (keep_ends (by assumption))
theorem ct_abort (T : TD f es e u d) (S2 : St2 f sa) (nd : (adrs ((x, instObj 522 dx) :: (dx, dictOf es n) :: (sa.rR, listOf #[] k1) :: (sa.bc, listOf #[] k2) :: (sa.ac, listOf #[] k3) :: (sa.ba, listOf #[] k4) :: (sa.aa, listOf #[] k5) :: (sa.ws, instObj 143 sa.wd) :: (sa.wd, dictOf sa.wes sa.wn) :: (sa.wl, listOf #[] k6) :: (485, tabObj #[]) :: rest)).Nodup) : CtC w 6 490 [.ref x] 489 485 ((x, instObj 522 dx) :: (dx, dictOf es n) :: (sa.rR, listOf #[] k1) :: (sa.bc, listOf #[] k2) :: (sa.ac, listOf #[] k3) :: (sa.ba, listOf #[] k4) :: (sa.aa, listOf #[] k5) :: (sa.ws, instObj 143 sa.wd) :: (sa.wd, dictOf sa.wes sa.wn) :: (sa.wl, listOf #[] k6) :: (485, tabObj #[]) :: rest) fun r l => r = .none ∧ ∃ f' es' n' ps, TD f' es' .none u d ∧ l = (x, instObj 522 dx) :: (dx, dictOf es' n') :: (485, tabObj ps) :: rest := by
  unfold CtC
  intros
  rename_i hret
  k_dflt (refine' code_defC (binds := [(Str.ofString "self", .ref x)]) ?k1 ?k2 ?k3 ?k4 ?k5 ?kA ?kF ?kK ?k6 ?k7 ?k8 ?k9 ?kB ?kD ?_ ?c2 ?c3 ?c4; (case kA => exact rfl); (case kF => exact rfl); (case kK => assumption); (case k1 => k_asm); (case k2 => k_asm); (case k3 => k_asm); (case k4 => k_asm); (case k5 => k_asm); (case k6 => k_is); (case k7 => k_is); (case k8 => ktr_room); (case k9 => walk_at "mBind"); (case kD => decide +kernel); (case kB => exact rfl); (case c2 => exact rfl); (case c3 => exact rfl); (case c4 => exact rfl); k_whole; intro g' L' h' tk' cells' FG' F' N' Y' B' X' T' l1; k_cells Y'; (try simp only [List.cons_append, List.nil_append] at N'); (try dsimp only); (try k_fold))
  have ndC := nd_cell N' l1 nd
  k_steps
  exact hret _ _ _ _ ⟨rfl, _, _, _, _, by assumption, rfl⟩ (by assumption) (keep_ends (by assumption))
end


end Mine
/- part M4 -/
set_option Elab.async false
set_option maxRecDepth 100000
set_option maxHeartbeats 1000000
namespace Mine
theorem perm_news {h₀ h : Heap} {L : Addr} {l l' : List (Addr × Obj)} (P : l.Perm l') (N : News h₀ L h l) : News h₀ L h l' := fun p hp => N p (P.mem_iff.mpr hp)
theorem fm9 {x : Int} : 0 ≤ x.fmod 9 ∧ x.fmod 9 < 9 := ⟨Int.fmod_nonneg_of_pos x (by decide), Int.fmod_lt_of_pos x (by decide)⟩
theorem val_in {kvs : List (Str × Value)} (nd : (kvs.map (·.1)).Nodup) : ∀ {p : Str × Value}, p ∈ kvs → valueAt kvs p.1 = some p.2 := by
  induction kvs with
  | nil => intro p hp; nomatch hp
  | cons q r ih =>
    intro p hp
    rw [List.map_cons, List.nodup_cons] at nd
    unfold valueAt
    rcases List.mem_cons.mp hp with rfl | hp
    · simp
    · have hne : q.1 ≠ p.1 := fun e => nd.1 (e ▸ List.mem_map_of_mem (f := (·.1)) hp)
      have := ih nd.2 hp
      unfold valueAt at this
      rw [List.find?_cons]
      simp only [hne, decide_false]
      exact this
theorem hits_same {A : Around} {s : Shared} {kvs : List (Str × Value)} (nd : (kvs.map (·.1)).Nodup) : ∀ {r : List (Str × Value)}, (∀ p ∈ r, p ∈ kvs) → KeqHits A s kvs r true
  | [], _ => .nil
  | (k, v) :: r, h => .hit (e := true) (b := true) (val_in nd (h _ (.head _))) (SeqAt.EqAt.same v) (hits_same nd fun p hp => h p (.tail _ hp))
theorem m_neq {w : World} {A : Around} {E : Value → Shared → Prop} {s : Shared} {h₀ : Heap} {L a b : Addr} {oa ob : Obj} {news : List (Addr × Obj)} {kvs : List (Str × Value)} {Q : Value → Shared → Prop} (N : News h₀ L s.heap news) (pa : (a, oa) ∈ news) (pb : (b, ob) ∈ news) (da : oa.IsDictOf (strKind PR w) kvs) (db : ob.IsDictOf (strKind PR w) kvs) (la : (a == sysModules) = false) (lb : (b == sysModules) = false) (hu : A.units < cLine)
    (h : Q (.bool false) s) : wpAny (model PR w) A (compareOp .NotEq (.ref a) (.ref b)) Q E s := by
  have nd : (kvs.map (·.1)).Nodup := by obtain ⟨_, _, _, _, _, _, nd⟩ := da; exact nd
  exact kne_pairs N pa pb da db la lb rfl hu (hits_same nd fun _ h => h) h
theorem strip_len {q : Str} : (Txt.strip q).length ≤ q.length := by
  unfold Txt.strip Txt.stripBy
  split
  · exact Nat.le_refl _
  · exact le_strSub _ _ _
theorem newD_len {W : Int} {v : Value} {q ws : Str} (hq : q.length ≤ 8) : (newD W v q ws).length ≤ ws.length + 12 := by
  have := strip_len (q := q)
  unfold newD noted
  split
  · omega
  · split
    · split
      · omega
      · rw [size_cat, size_cat, nl_len]; omega
    · omega
theorem newK_len {W : Int} {v : Value} {kvs : List (Str × Value)} : (newK W v kvs).length ≤ kvs.length + 1 := by
  unfold newK
  split
  · exact stored_length_le _ _ _
  · omega
section
variable {w : World} {da mi va pa dx ea x : Addr} {T l l2 : List (Addr × Obj)} {u ws q r d : Str} {v e pv oa : Value} {tu tw tW tq tr t₁ t₂ : Tok} {od om od' om' eo : Obj} {mk kvs : List (Str × Value)} {W : Int} {f : Str → Option (Option Value)} {es : List DictEntry} {n : Nat}
  {p : Program} {loose : List Str} {mean : ExcName → Option Value} {mg mb : Str → Option Value} {dp un : Nat} {gd : Option (List Code)} {cn : Str} {cs : Scope} {a : Addr} {ccd : Value} {cl : List (Str × Addr)} {outer : List Env}
    {A₀ : Around} {base h₀ : Heap} {L : Addr} {m : Str → Option Value} {s : Shared} {E : Value → Shared → Prop} {Q : Value → Shared → Prop} {o3 : Obj}
theorem due_perm (P : l.Perm (AL da od mi om dx o3 ea eo T)) (B : Below A₀ base outer h₀) (F : Fr h₀ L s.heap m) (X : (Mine.hd.heap_39 w.params).In h₀) (N : News h₀ L s.heap l) (T' : Top p loose mean mg mb h₀) (hk : cs.kind = .function) (hd : dp + 2 * 2 < recursionLimit) (hu : un + 10 * 2 < cLine)
    (nd : (adrs l).Nodup) (hdo : od.IsDictOf (strKind PR w) (D4 (.str u tu) (.str ws tw) (.ref mi) e)) (hmo : om.IsDictOf (strKind PR w) mk) (hz : mk.length ≤ 100)
    (hv : (Mine.hd.heap_39 w.params).lookup va = some (tupO [v, .str q tq])) (hpv : (Mine.hd.heap_39 w.params).lookup pa = some (tupO [pv, .str r tr])) (hp : Pair v q) (hq : q.length ≤ 8) (hr : r.length ≤ 8) (hws : ws.length ≤ 1000) (hW : 0 ≤ W ∧ W < 9)
    (h : ∀ (rl : Addr) (t t' : Tok) (l2 : List (Addr × Obj)) (od' om' : Obj) (tu' tw' : Tok) (h' : Heap) (tk' : Nat), Fr h₀ L h' m → News h₀ L h' l2 → (adrs l2).Nodup → (rl, resL (isErr W v) t t') ∈ l2 → (∀ p ∈ AL da od' mi om' dx o3 ea eo T, p ∈ l2) →
      od'.IsDictOf (strKind PR w) (D4 (.str (newU W v q r u) tu') (.str (newD W v q ws) tw') (.ref mi) e) → om'.IsDictOf (strKind PR w) (newK W v mk) → Q (.ref rl) { s with heap := h', toks := tk' }) :
    wpAny (model PR w) (ktrTop dp un gd cn cs L a ccd cl outer) (call (.ref 661) [.ref da, .int W tW, .ref va, .ref pa]) Q E s :=
  due_step B F X (perm_news P N) T' hk hd hu (perm_nd P nd) hdo hmo hz hv hpv hp hq hr hws hW h
variable {c oth mir I : Addr} {oc ooth omir oI : Obj} {gg : Addr × Obj} {X9 : Int}
theorem due_A (B : Below A₀ base outer h₀) (F : Fr h₀ L s.heap m) (X : (Mine.hd.heap_39 w.params).In h₀) (N : News h₀ L s.heap ((oth, ooth) :: (I, oI) :: AL da od mi om dx o3 ea eo (gg :: T))) (T' : Top p loose mean mg mb h₀) (hk : cs.kind = .function) (hd : dp + 2 * 2 < recursionLimit) (hu : un + 10 * 2 < cLine)
    (nd : (adrs ((oth, ooth) :: (I, oI) :: AL da od mi om dx o3 ea eo (gg :: T))).Nodup) (hdo : od.IsDictOf (strKind PR w) (D4 (.str u tu) (.str ws tw) (.ref mi) e)) (hmo : om.IsDictOf (strKind PR w) mk) (hz : mk.length ≤ 100)
    (hv : (Mine.hd.heap_39 w.params).lookup va = some (tupO [v, .str q tq])) (hpv : (Mine.hd.heap_39 w.params).lookup pa = some (tupO [pv, .str r tr])) (hp : Pair v q) (hq : q.length ≤ 8) (hr : r.length ≤ 8) (hws : ws.length ≤ 1000) 
    (h : ∀ (rl : Addr) (t t' : Tok) (l2 : List (Addr × Obj)) (od' om' : Obj) (tu' tw' : Tok) (h' : Heap) (tk' : Nat), Fr h₀ L h' m → News h₀ L h' l2 → (adrs l2).Nodup → (rl, resL (isErr (X9.fmod 9) v) t t') ∈ l2 → (∀ p ∈ AL da od' mi om' dx o3 ea eo ((oth, ooth) :: (I, oI) :: gg :: T), p ∈ l2) → (adrs (AL da od' mi om' dx o3 ea eo ((oth, ooth) :: (I, oI) :: gg :: T))).Nodup →
      od'.IsDictOf (strKind PR w) (D4 (.str (newU (X9.fmod 9) v q r u) tu') (.str (newD (X9.fmod 9) v q ws) tw') (.ref mi) e) → om'.IsDictOf (strKind PR w) (newK (X9.fmod 9) v mk) → Q (.ref rl) { s with heap := h', toks := tk' }) :
    wpAny (model PR w) (ktrTop dp un gd cn cs L a ccd cl outer) (call (.ref 661) [.ref da, .int (X9.fmod 9) tW, .ref va, .ref pa]) Q E s := by
  have P : (((oth, ooth) :: (I, oI) :: AL da od mi om dx o3 ea eo (gg :: T))).Perm (AL da od mi om dx o3 ea eo ((oth, ooth) :: (I, oI) :: gg :: T)) := by
    haveI : DecidableEq (Addr × Obj) := fun _ _ => Classical.propDecidable _
    refine List.perm_iff_count.mpr fun a => ?_
    simp only [AL, List.count_cons]
    omega
  refine due_perm P B F X N T' hk hd hu nd hdo hmo hz hv hpv hp hq hr hws (by first | exact fm9 | decide) fun rl t t' l2 od' om' tu' tw' h' tk' F' N' nd' hr' sub hd' hm' => ?_
  have n2 := perm_nd P nd
  exact h rl t t' l2 od' om' tu' tw' h' tk' F' N' nd' hr' sub n2 hd' hm'
theorem due_B (B : Below A₀ base outer h₀) (F : Fr h₀ L s.heap m) (X : (Mine.hd.heap_39 w.params).In h₀) (N : News h₀ L s.heap ((c, oc) :: (mir, omir) :: (oth, ooth) :: (I, oI) :: AL da od mi om dx o3 ea eo (gg :: T))) (T' : Top p loose mean mg mb h₀) (hk : cs.kind = .function) (hd : dp + 2 * 2 < recursionLimit) (hu : un + 10 * 2 < cLine)
    (nd : (adrs ((c, oc) :: (mir, omir) :: (oth, ooth) :: (I, oI) :: AL da od mi om dx o3 ea eo (gg :: T))).Nodup) (hdo : od.IsDictOf (strKind PR w) (D4 (.str u tu) (.str ws tw) (.ref mir) e)) (hmo : omir.IsDictOf (strKind PR w) mk) (hz : mk.length ≤ 100)
    (hv : (Mine.hd.heap_39 w.params).lookup va = some (tupO [v, .str q tq])) (hpv : (Mine.hd.heap_39 w.params).lookup pa = some (tupO [pv, .str r tr])) (hp : Pair v q) (hq : q.length ≤ 8) (hr : r.length ≤ 8) (hws : ws.length ≤ 1000) (hW : W = 8)
    (h : ∀ (rl : Addr) (t t' : Tok) (l2 : List (Addr × Obj)) (od' om' : Obj) (tu' tw' : Tok) (h' : Heap) (tk' : Nat), Fr h₀ L h' m → News h₀ L h' l2 → (adrs l2).Nodup → (rl, resL (isErr W v) t t') ∈ l2 → (∀ p ∈ AL da od' mir om' dx o3 ea eo ((c, oc) :: (oth, ooth) :: (I, oI) :: (mi, om) :: gg :: T), p ∈ l2) → (adrs (AL da od' mir om' dx o3 ea eo ((c, oc) :: (oth, ooth) :: (I, oI) :: (mi, om) :: gg :: T))).Nodup →
      od'.IsDictOf (strKind PR w) (D4 (.str u tu') (.str ws tw') (.ref mir) e) → om'.IsDictOf (strKind PR w) mk → Q (.ref rl) { s with heap := h', toks := tk' }) :
    wpAny (model PR w) (ktrTop dp un gd cn cs L a ccd cl outer) (call (.ref 661) [.ref da, .int W tW, .ref va, .ref pa]) Q E s := by
  subst hW
  have P : (((c, oc) :: (mir, omir) :: (oth, ooth) :: (I, oI) :: AL da od mi om dx o3 ea eo (gg :: T))).Perm (AL da od mir omir dx o3 ea eo ((c, oc) :: (oth, ooth) :: (I, oI) :: (mi, om) :: gg :: T)) := by
    haveI : DecidableEq (Addr × Obj) := fun _ _ => Classical.propDecidable _
    refine List.perm_iff_count.mpr fun a => ?_
    simp only [AL, List.count_cons]
    omega
  refine due_perm P B F X N T' hk hd hu nd hdo hmo hz hv hpv hp hq hr hws (by first | exact fm9 | decide) fun rl t t' l2 od' om' tu' tw' h' tk' F' N' nd' hr' sub hd' hm' => ?_
  have n2 := perm_nd P nd
  exact h rl t t' l2 od' om' tu' tw' h' tk' F' N' nd' hr' sub n2 hd' hm'
end
section
variable {w : World} {da mi va pa dx ea x rl : Addr} {T l2 : List (Addr × Obj)} {u ws q r d : Str} {v e pv oa : Value} {tu tw tW tq tr t₁ t₂ : Tok} {od om od' om' eo : Obj} {mk kvs : List (Str × Value)} {W X9 : Int} {f : Str → Option (Option Value)} {es : List DictEntry} {n : Nat}
  {p : Program} {loose : List Str} {mean : ExcName → Option Value} {mg mb : Str → Option Value} {dp un : Nat} {gd : Option (List Code)} {cn : Str} {cs : Scope} {a : Addr} {ccd : Value}
    {A₀ : Around} {base h₀ : Heap} {L : Addr} {m : Str → Option Value} {s : Shared} {E : Value → Shared → Prop} {Q : Value → Shared → Prop} {b : Bool}
theorem told_A (B : Below A₀ base [] h₀) (F : Fr h₀ L s.heap m) (X : (Mine.hd.heap_39 w.params).In h₀) (N : News h₀ L s.heap l2) (T' : Top p loose mean mg mb h₀) (XB : (Mine.hd.heap_39 w.params).In base) (TB : Top p loose mean mg mb base) (hk : cs.kind = .function) (hd : dp + 2 * 9 < recursionLimit) (hu : un + 10 * 9 < cLine)
    (nd2 : (adrs l2).Nodup) (hrl : (rl, resL b t₁ t₂) ∈ l2) (sub : ∀ p ∈ AL da od mi om dx (dictOf es n) ea eo T, p ∈ l2) (nd : (adrs (AL da od mi om dx (dictOf es n) ea eo T)).Nodup) (hx : (x, instObj 522 dx) ∈ T)
    (TT : TD f es (.ref ea) u d) (hke : eo.IsDictOf (strKind PR w) kvs) (hz : kvs.length ≤ 100) (hp : Pair v q) (hpr : Pair pv r) (hq : q.length ≤ 8) (hr : r.length ≤ 8) (hdl : d.length ≤ 1000) (hW : ¬ X9.fmod 9 = 8)
    (h : ∀ (rt : Addr) (t t' : Tok) (es' : List DictEntry) (n' : Nat) (eo' : Obj) (h' : Heap) (tk' : Nat), Fr h₀ L h' m → News h₀ L h' ((rt, resL (isErr (X9.fmod 9) v) t t') :: (rl, resL b t₁ t₂) :: AL da od mi om dx (dictOf es' n') ea eo' T) →
      TD f es' (.ref ea) (newU (X9.fmod 9) v q r u) (newD (X9.fmod 9) v q d) → eo'.IsDictOf (strKind PR w) (newK (X9.fmod 9) v kvs) → Q (.ref rt) { s with heap := h', toks := tk' }) :
    wpAny (model PR w) (ktrTop dp un gd cn cs L a ccd [] []) (call (.ref 654) [.ref x, .int (X9.fmod 9) tW, v, pv, oa]) Q E s := by
  refine told_step B F X N T' XB TB hk hd hu nd2 hrl sub nd hx TT hke hz hp hpr hq hr hdl fm9 fun rt t t' es' n' eo' h' tk' F' N' T2 k2 => ?_
  have e : newE (X9.fmod 9) oa (.ref ea) = .ref ea := by unfold newE; rw [if_neg hW]
  rw [e] at T2
  exact h rt t t' es' n' eo' h' tk' F' N' T2 k2
theorem told_B (B : Below A₀ base [] h₀) (F : Fr h₀ L s.heap m) (X : (Mine.hd.heap_39 w.params).In h₀) (N : News h₀ L s.heap l2) (T' : Top p loose mean mg mb h₀) (XB : (Mine.hd.heap_39 w.params).In base) (TB : Top p loose mean mg mb base) (hk : cs.kind = .function) (hd : dp + 2 * 9 < recursionLimit) (hu : un + 10 * 9 < cLine)
    (nd2 : (adrs l2).Nodup) (hrl : (rl, resL b t₁ t₂) ∈ l2) (sub : ∀ p ∈ AL da od mi om dx (dictOf es n) ea eo T, p ∈ l2) (nd : (adrs (AL da od mi om dx (dictOf es n) ea eo T)).Nodup) (hx : (x, instObj 522 dx) ∈ T)
    (TT : TD f es (.ref ea) u d) (hke : eo.IsDictOf (strKind PR w) kvs) (hz : kvs.length ≤ 100) (hp : Pair v q) (hpr : Pair pv r) (hq : q.length ≤ 8) (hr : r.length ≤ 8) (hdl : d.length ≤ 1000) (hW : W = 8)
    (h : ∀ (rt : Addr) (t t' : Tok) (es' : List DictEntry) (n' : Nat) (eo' : Obj) (h' : Heap) (tk' : Nat), Fr h₀ L h' m → News h₀ L h' ((rt, resL (isErr W v) t t') :: (rl, resL b t₁ t₂) :: AL da od mi om dx (dictOf es' n') ea eo' T) →
      TD f es' oa u d → eo'.IsDictOf (strKind PR w) kvs → Q (.ref rt) { s with heap := h', toks := tk' }) :
    wpAny (model PR w) (ktrTop dp un gd cn cs L a ccd [] []) (call (.ref 654) [.ref x, .int W tW, v, pv, oa]) Q E s := by
  subst hW
  exact told_step B F X N T' XB TB hk hd hu nd2 hrl sub nd hx TT hke hz hp hpr hq hr hdl (by decide) h
end
section
variable {w : World} {h₀ h' : Heap} {L I gl oth rt rl x dx da : Addr} {oI ooth o1 o2 od' om' eo' : Obj} {S : SD} {gs : Array Value} {gn i : Nat} {T : List (Addr × Obj)} {f : Str → Option (Option Value)} {es' : List DictEntry} {n' : Nat} {u' ws' : Str} {tu' tw' : Tok} {W : Int} {v : Value} {q r : Str} {s₁ : Shared} {tk : Nat} {m' : Str → Option Value} {sv : Value} {tl dl : Addr} {Q : Flow → Shared → Prop}
theorem close_A (hq : q.length ≤ 8) (len : S.kvs.length ≤ i + 1) (wlen : S.ws.length ≤ 12 * i) (se : (S.ea == sysModules) = false) (sm : (S.mi == sysModules) = false) (hgs : gs.size ≤ i)
    (nd : (adrs ((I, oI) :: S.led dx da ((gl, listOf gs gn) :: T))).Nodup) (F : Fr h₀ L h' m') (N : News h₀ L h' ((rt, o1) :: (rl, o2) :: AL da od' S.mi om' dx (dictOf es' n') S.ea eo' ((oth, ooth) :: (I, oI) :: (gl, listOf gs gn) :: T)))
    (TT : TD f es' (.ref S.ea) (newU W v q r S.u) (newD W v q S.ws)) (hd : od'.IsDictOf (strKind PR w) (D4 (.str (newU W v q r S.u) tu') (.str (newD W v q S.ws) tw') (.ref S.mi) (.ref S.ea))) (hm : om'.IsDictOf (strKind PR w) (newK W v S.kvs)) (he : eo'.IsDictOf (strKind PR w) (newK W v S.kvs))
    (hn : Names sv tl dl gl m') :
    GP h₀ L (fun m' l' => Names sv tl dl gl m' ∧ ∃ S' gs' gn' N, l' = S'.led dx da ((gl, listOf gs' gn') :: (N ++ T)) ∧ (adrs l').Nodup ∧ S'.Ok w f (i + 1) ∧ gs'.size ≤ i + 1 ∧ Outcome w S S' gs gs' N) I oI s₁ Q .next { s₁ with heap := h', toks := tk } := by
  have nd2 := List.nodup_cons.mp nd
  refine ⟨h', tk, m', AL da od' S.mi om' dx (dictOf es' n') S.ea eo' ((gl, listOf gs gn) :: T), rfl, F, fun p hp => N p ?_, nd2.1, hn,
    ⟨S.ea, S.mi, es', n', eo', od', om', newU W v q r S.u, newD W v q S.ws, tu', tw', newK W v S.kvs⟩, gs, gn, [], rfl, nd2.2, ⟨TT, hd, he, hm, ?_, ?_, se, sm⟩, by omega, .inl ⟨rfl, rfl, rfl, rfl⟩⟩
  · simp only [List.mem_cons] at hp ⊢
    rcases hp with hp | hp | hp | hp | hp | hp | hp <;> simp [hp]
  · have := newK_len (W := W) (v := v) (kvs := S.kvs)
    show (newK W v S.kvs).length ≤ _
    omega
  · have := newD_len (W := W) (v := v) (q := q) (ws := S.ws) hq
    show (newD W v q S.ws).length ≤ _
    omega
theorem close_B {c mir : Addr} {omir : Obj} {kv : Str × Value} (wlen : S.ws.length ≤ 12 * i) (hgs : gs.size ≤ i) (so : (oth == sysModules) = false) (smi : (mir == sysModules) = false)
    (nd : (adrs ((c, tupO [.ref oth, .ref mir]) :: (mir, omir) :: (oth, ooth) :: (I, oI) :: S.led dx da ((gl, listOf gs gn) :: T))).Nodup) (F : Fr h₀ L h' m') (N : News h₀ L h' ((rt, o1) :: (rl, o2) :: AL da od' mir om' dx (dictOf es' n') S.ea eo' ((c, tupO [.ref oth, .ref mir]) :: (oth, ooth) :: (I, oI) :: (S.mi, S.om) :: (gl, listOf (gs.push (.ref c)) (gn + 1)) :: T)))
    (TT : TD f es' (.ref oth) S.u S.ws) (hd : od'.IsDictOf (strKind PR w) (D4 (.str S.u tu') (.str S.ws tw') (.ref mir) (.ref oth))) (ho : ooth.IsDictOf (strKind PR w) [kv]) (hm : om'.IsDictOf (strKind PR w) [kv]) (he : eo'.IsDictOf (strKind PR w) S.kvs) (hsm : S.om.IsDictOf (strKind PR w) S.kvs)
    (hn : Names sv tl dl gl m') :
    GP h₀ L (fun m' l' => Names sv tl dl gl m' ∧ ∃ S' gs' gn' N, l' = S'.led dx da ((gl, listOf gs' gn') :: (N ++ T)) ∧ (adrs l').Nodup ∧ S'.Ok w f (i + 1) ∧ gs'.size ≤ i + 1 ∧ Outcome w S S' gs gs' N) I oI s₁ Q .next { s₁ with heap := h', toks := tk } := by
  have P : (adrs ((c, tupO [.ref oth, .ref mir]) :: (mir, omir) :: (oth, ooth) :: (I, oI) :: S.led dx da ((gl, listOf gs gn) :: T))).Perm (I :: adrs (AL da od' mir om' dx (dictOf es' n') oth ooth ((gl, listOf (gs.push (.ref c)) (gn + 1)) :: ([(c, tupO [.ref oth, .ref mir]), (S.mi, S.om), (S.ea, eo')] ++ T)))) := by
    refine List.perm_iff_count.mpr fun a => ?_
    simp only [adrs, AL, SD.led, List.map_cons, List.map_append, List.map_nil, List.count_cons, List.count_append, List.count_nil]
    omega
  have nd2 := List.nodup_cons.mp (P.nodup_iff.mp nd)
  refine ⟨h', tk, m', AL da od' mir om' dx (dictOf es' n') oth ooth ((gl, listOf (gs.push (.ref c)) (gn + 1)) :: ([(c, tupO [.ref oth, .ref mir]), (S.mi, S.om), (S.ea, eo')] ++ T)), rfl, F, fun p hp => N p ?_, nd2.1, hn,
    ⟨oth, mir, es', n', ooth, od', om', S.u, S.ws, tu', tw', [kv]⟩, gs.push (.ref c), gn + 1, _, rfl, nd2.2, ⟨TT, hd, ho, hm, ?_, ?_, so, smi⟩, by rw [Array.size_push]; omega, .inr ⟨c, S.om, eo', rfl, hsm, he, rfl⟩⟩
  · simp only [List.mem_cons, List.cons_append, List.nil_append] at hp ⊢
    rcases hp with hp | hp | hp | hp | hp | hp | hp | hp | hp | hp <;> simp [hp]
  · show 1 ≤ _; omega
  · show S.ws.length ≤ _; omega
end
end Mine
/- part M5 -/
set_option Elab.async false
set_option maxRecDepth 100000
set_option maxHeartbeats 2000000
namespace Mine
theorem names_chain0 {sv : Value} {tl dl gl : Addr} {m : Str → Option Value} (h : Names sv tl dl gl m) :
    m = fun y => if y = nScript then some sv else if y = nThings then some (.ref tl) else if y = nDead then some (.ref dl) else if y = nGiven then some (.ref gl) else m y := by
  obtain ⟨h1, h2, h3, h4⟩ := h
  funext y
  by_cases e1 : y = nScript
  · subst e1; rw [if_pos rfl, h1]
  · by_cases e2 : y = nThings
    · subst e2; rw [if_neg e1, if_pos rfl, h2]
    · by_cases e3 : y = nDead
      · subst e3; rw [if_neg e1, if_neg e2, if_pos rfl, h3]
      · by_cases e4 : y = nGiven
        · subst e4; rw [if_neg e1, if_neg e2, if_neg e3, if_pos rfl, h4]
        · rw [if_neg e1, if_neg e2, if_neg e3, if_neg e4]
section
variable {S0 S1 : SD} {a0 a1 : SA} {x0 x1 dx0 dx1 da0 da1 gl tl dl : Addr} {gs : Array Value} {gn : Nat} {XX : List (Addr × Obj)}
abbrev EL (S0 S1 : SD) (a0 a1 : SA) (x0 x1 dx0 dx1 da0 da1 gl tl dl : Addr) (gs : Array Value) (gn : Nat) (XX : List (Addr × Obj)) : List (Addr × Obj) := ((x0, instObj 522 dx0) :: (dx0, dictOf S0.es S0.n) :: (a0.rR, listOf #[] 0) :: (a0.bc, listOf #[] 0) :: (a0.ac, listOf #[] 0) :: (a0.ba, listOf #[] 0) :: (a0.aa, listOf #[] 0) :: (a0.ws, instObj 143 a0.wd) :: (a0.wd, dictOf a0.wes a0.wn) :: (a0.wl, listOf #[] 0) :: (331, tabObj #[]) :: (a0.rV, listOf #[] 0) :: (da0, S0.od) :: (S0.mi, S0.om) :: (S0.ea, S0.eo) :: (gl, listOf gs gn) :: (tl, listOf #[.ref x0, .ref x1] 0) :: (dl, listOf #[.ref da0, .ref da1] 0) :: (447, tabObj #[]) :: ((x1, instObj 522 dx1) :: (dx1, dictOf S1.es S1.n) :: (a1.rR, listOf #[] 0) :: (a1.bc, listOf #[] 0) :: (a1.ac, listOf #[] 0) :: (a1.ba, listOf #[] 0) :: (a1.aa, listOf #[] 0) :: (a1.ws, instObj 143 a1.wd) :: (a1.wd, dictOf a1.wes a1.wn) :: (a1.wl, listOf #[] 0) :: (485, tabObj #[]) :: (a1.rV, listOf #[] 0) :: (da1, S1.od) :: (S1.mi, S1.om) :: (S1.ea, S1.eo) :: XX))
theorem end_perm : (CL S0 dx0 da0 gl gs gn [] S1 dx1 da1 (XX ++ FXL dl da0 da1 tl x0 x1 dx0 dx1 a0.led a1.led [(485, tabObj #[]), (447, tabObj #[]), (331, tabObj #[])])).Perm (EL S0 S1 a0 a1 x0 x1 dx0 dx1 da0 da1 gl tl dl gs gn XX) := by
  haveI : DecidableEq (Addr × Obj) := fun _ _ => Classical.propDecidable _
  refine List.perm_iff_count.mpr fun a => ?_
  simp only [CL, SD.led, AL, FXL, EL, SA.led, SA.wset, List.count_append, List.count_cons, List.count_nil, List.nil_append]
  omega
end
section
variable {w : World} {news : List (Addr × Obj)} {p : Program} {loose : List Str} {mean : ExcName → Option Value} {mg mb : Str → Option Value} {dp un : Nat} {gd : Option (List Code)} {cn : Str} {cs : Scope} {a : Addr} {ccd : Value} {cl : List (Str × Addr)} {outer : List Env}
    {A₀ : Around} {base h₀ : Heap} {L : Addr} {m : Str → Option Value} {s : Shared} {E : Value → Shared → Prop}
theorem s_commit {x dx : Addr} {f : Str → Option (Option Value)} {sa : SA} {es : List DictEntry} {n k1 k2 k3 k4 k5 k6 : Nat} {e : Value} {u d : Str} {rest : List (Addr × Obj)} (B : Below A₀ base outer h₀) (F : Fr h₀ L s.heap m) (X : (Mine.hd.heap_39 w.params).In h₀) (N : News h₀ L s.heap ((x, instObj 522 dx) :: (dx, dictOf es n) :: (sa.rR, listOf #[] k1) :: (sa.bc, listOf #[] k2) :: (sa.ac, listOf #[] k3) :: (sa.ba, listOf #[] k4) :: (sa.aa, listOf #[] k5) :: (sa.ws, instObj 143 sa.wd) :: (sa.wd, dictOf sa.wes sa.wn) :: (sa.wl, listOf #[] k6) :: (331, tabObj #[]) :: rest)) (T' : Top p loose mean mg mb h₀) (hk : cs.kind = .function) (hd' : dp + 2 * 6 < recursionLimit) (hu : un + 0 + 10 * 6 < cLine) (C : CodeHd base 335 331) (T : TD f es e u d) (S2 : St2 f sa) (hst : f (Str.ofString "status") = some (some (.str (Str.ofString "Active") 381))) (nd : (adrs ((x, instObj 522 dx) :: (dx, dictOf es n) :: (sa.rR, listOf #[] k1) :: (sa.bc, listOf #[] k2) :: (sa.ac, listOf #[] k3) :: (sa.ba, listOf #[] k4) :: (sa.aa, listOf #[] k5) :: (sa.ws, instObj 143 sa.wd) :: (sa.wd, dictOf sa.wes sa.wn) :: (sa.wl, listOf #[] k6) :: (331, tabObj #[]) :: rest)).Nodup) {Q : Value → Shared → Prop}
    (h : ∀ h' tk' f' es' n' ps, TD f' es' .none u d → Fr h₀ L h' m → News h₀ L h' ((x, instObj 522 dx) :: (dx, dictOf es' n') :: (331, tabObj ps) :: rest) → (adrs ((x, instObj 522 dx) :: (dx, dictOf es' n') :: (331, tabObj ps) :: rest)).Nodup → Q .none { s with heap := h', toks := tk' }) :
    wpAny (model PR w) (ktrTop dp un gd cn cs L a ccd cl outer) (PySem.call (.ref 336) [.ref x]) Q E s :=
  wpAny_call (codeAny_mono (ct_commit T S2 hst nd p loose mean mg mb dp un gd cn cs a ccd cl outer A₀ base h₀ L m s Q E C B F X N T' hk hd' hu (by
    rintro v l h' tk' ⟨rfl, f', es', n', ps, T2, rfl⟩ F' N'
    refine h h' tk' f' es' n' ps T2 F' N' ?_
    simp only [adrs, List.map_cons, List.nodup_cons, List.mem_cons, not_or] at nd ⊢
    exact ⟨⟨nd.1.1, nd.1.2.2.2.2.2.2.2.2.2⟩, nd.2.1.2.2.2.2.2.2.2.2, nd.2.2.2.2.2.2.2.2.2.2⟩)) fun r s' z => by rcases r with e | (v | _ | _ | _) <;> exact z)
theorem s_abort {x dx : Addr} {f : Str → Option (Option Value)} {sa : SA} {es : List DictEntry} {n k1 k2 k3 k4 k5 k6 : Nat} {e : Value} {u d : Str} {rest : List (Addr × Obj)} {p1 p2 p3 p4 p5 p6 p7 p8 p9 p10 p11 : Addr × Obj} (B : Below A₀ base outer h₀) (F : Fr h₀ L s.heap m) (X : (Mine.hd.heap_39 w.params).In h₀) (N : News h₀ L s.heap (p1 :: p2 :: p3 :: p4 :: p5 :: p6 :: p7 :: p8 :: p9 :: p10 :: p11 :: ((x, instObj 522 dx) :: (dx, dictOf es n) :: (sa.rR, listOf #[] k1) :: (sa.bc, listOf #[] k2) :: (sa.ac, listOf #[] k3) :: (sa.ba, listOf #[] k4) :: (sa.aa, listOf #[] k5) :: (sa.ws, instObj 143 sa.wd) :: (sa.wd, dictOf sa.wes sa.wn) :: (sa.wl, listOf #[] k6) :: (485, tabObj #[]) :: rest))) (T' : Top p loose mean mg mb h₀) (hk : cs.kind = .function) (hd' : dp + 2 * 6 < recursionLimit) (hu : un + 0 + 10 * 6 < cLine) (C : CodeHd base 489 485) (T : TD f es e u d) (S2 : St2 f sa) (nd : (adrs (p1 :: p2 :: p3 :: p4 :: p5 :: p6 :: p7 :: p8 :: p9 :: p10 :: p11 :: ((x, instObj 522 dx) :: (dx, dictOf es n) :: (sa.rR, listOf #[] k1) :: (sa.bc, listOf #[] k2) :: (sa.ac, listOf #[] k3) :: (sa.ba, listOf #[] k4) :: (sa.aa, listOf #[] k5) :: (sa.ws, instObj 143 sa.wd) :: (sa.wd, dictOf sa.wes sa.wn) :: (sa.wl, listOf #[] k6) :: (485, tabObj #[]) :: rest))).Nodup) {Q : Value → Shared → Prop}
    (h : ∀ h' tk' f' es' n' ps, TD f' es' .none u d → Fr h₀ L h' m → News h₀ L h' ((x, instObj 522 dx) :: (dx, dictOf es' n') :: (485, tabObj ps) :: p1 :: p2 :: p3 :: p4 :: p5 :: p6 :: p7 :: p8 :: p9 :: p10 :: p11 :: rest) → Q .none { s with heap := h', toks := tk' }) :
    wpAny (model PR w) (ktrTop dp un gd cn cs L a ccd cl outer) (PySem.call (.ref 490) [.ref x]) Q E s := by
  have P : (p1 :: p2 :: p3 :: p4 :: p5 :: p6 :: p7 :: p8 :: p9 :: p10 :: p11 :: ((x, instObj 522 dx) :: (dx, dictOf es n) :: (sa.rR, listOf #[] k1) :: (sa.bc, listOf #[] k2) :: (sa.ac, listOf #[] k3) :: (sa.ba, listOf #[] k4) :: (sa.aa, listOf #[] k5) :: (sa.ws, instObj 143 sa.wd) :: (sa.wd, dictOf sa.wes sa.wn) :: (sa.wl, listOf #[] k6) :: (485, tabObj #[]) :: rest)).Perm ((x, instObj 522 dx) :: (dx, dictOf es n) :: (sa.rR, listOf #[] k1) :: (sa.bc, listOf #[] k2) :: (sa.ac, listOf #[] k3) :: (sa.ba, listOf #[] k4) :: (sa.aa, listOf #[] k5) :: (sa.ws, instObj 143 sa.wd) :: (sa.wd, dictOf sa.wes sa.wn) :: (sa.wl, listOf #[] k6) :: (485, tabObj #[]) :: (p1 :: p2 :: p3 :: p4 :: p5 :: p6 :: p7 :: p8 :: p9 :: p10 :: p11 :: rest)) := by
    haveI : DecidableEq (Addr × Obj) := fun _ _ => Classical.propDecidable _
    refine List.perm_iff_count.mpr fun a => ?_
    simp only [List.count_cons]
    omega
  exact wpAny_call (codeAny_mono (ct_abort T S2 (perm_nd P nd) p loose mean mg mb dp un gd cn cs a ccd cl outer A₀ base h₀ L m s Q E C B F X (perm_news P N) T' hk hd' hu (by
    rintro v l h' tk' ⟨rfl, f', es', n', ps, T2, rfl⟩ F' N'
    exact h h' tk' f' es' n' ps T2 F' N')) fun r s' z => by rcases r with e | (v | _ | _ | _) <;> exact z)
theorem m_sd {x dx : Addr} {f : Str → Option (Option Value)} {es : List DictEntry} {n : Nat} {e : Value} {u d q : Str} {tq : Tok} {g : Obj → List (Addr × Obj)} (B : Below A₀ base outer h₀) (F : Fr h₀ L s.heap m) (X : (Mine.hd.heap_39 w.params).In h₀) (N : News h₀ L s.heap news) (T' : Top p loose mean mg mb h₀) (hk : cs.kind = .function) (hd' : dp + 2 * 3 < recursionLimit) (hu : un + 0 + 10 * 3 < cLine) (hx : (x, instObj 522 dx) ∈ news) (hdx : (dx, dictOf es n) ∈ news) (T : TD f es e u d) (U : UpdF dx (dictOf es n) news g) (nd : (adrs news).Nodup) {Q : Value → Shared → Prop}
    (h : ∀ h' tk' es' n', TD f es' e u q → Fr h₀ L h' m → News h₀ L h' (g (dictOf es' n')) → (adrs (g (dictOf es' n'))).Nodup → Q .none { s with heap := h', toks := tk' }) :
    wpAny (model PR w) (ktrTop dp un gd cn cs L a ccd cl outer) (PySem.call (.ref 272) [.ref x, .str q tq]) Q E s :=
  s_set_description (.str _ _) (by intro h; cases h) U hx hdx T B F X N T' hk hd' hu fun h' tk' es' n' T2 F' N' => h h' tk' es' n' T2 F' N' (by rw [updF_adrs U]; exact nd)
end
/-- a turn of the loop over the pairs -/
def GT (h₀ : Heap) (L : Addr) (J : (Str → Option Value) → Prop) (FL : List (Addr × Obj)) (s₁ : Shared) (f : Flow) (s₂ : Shared) : Prop :=
  f = .next ∧ ∃ h' tk m', s₂ = { s₁ with heap := h', toks := tk } ∧ Fr h₀ L h' m' ∧ News h₀ L h' FL ∧ J m'
section
variable {prog : Program} {w : World} {A : Around} {E : Value → Shared → Prop} {s : Shared} {env : Env} {h₀ : Heap} {L gl : Addr} {elts : List PySem.Expr} {k1 : Nat} {tp : Pos} {body : List Stmt} {Q : Flow → Shared → Prop} {m₀ : Str → Option Value} {FL : List (Addr × Obj)} {gs : Array Value} {gn : Nat}
theorem iter_given (J : (Str → Option Value) → Prop) (hh : A.handled = none) (hL : env.locals = L) (F : Fr h₀ L s.heap m₀) (N : News h₀ L s.heap FL) (hg : (gl, listOf gs gn) ∈ FL) (h0 : J m₀)
    (turn : ∀ v m₁ (s₁ : Shared) I oI, v ∈ gs.toList → J m₁ → Fr h₀ L s₁.heap m₁ → News h₀ L s₁.heap ((I, oI) :: FL) →
      wpAny (model prog w) A (assign (.Tuple elts k1 tp) env v) (fun _ s₃ => wpAny (model prog w) A (execs body env) (GT h₀ L J ((I, oI) :: FL) s₁) E s₃) E s₁)
    (done : ∀ m₁ h tk, J m₁ → Fr h₀ L h m₁ → News h₀ L h FL → Q .next { s with heap := h, toks := tk }) :
    wpAny (model prog w) A (pyIter (.ref gl)) (fun it s₂ => LoopAtT prog w A h₀ env (.Tuple elts k1 tp) body Q E it s₂) E s := by
  subst hL
  have z := N _ hg
  have hl : s.heap.IsList gl gs := News.isList N hg
  have hlt : gl < s.heap.objs.size := Heap.lt_size z.1
  refine wpAny_pyIter_list hl ?_
  refine ⟨s.heap.objs.size, _, _, gs.size, _, _, m₀, FL, fun _ m' l => J m' ∧ l = FL, rfl, Walks.list hh s.heap.objs.size gl (Nat.ne_of_lt hlt) gs, ?_, ?_, ?_, ⟨⟨_, Heap.get?_push_size _ rfl, rfl, rfl⟩, (let ⟨o, ho, r⟩ := hl; ⟨o, Heap.get?_push_of_some _ ho, r⟩)⟩, F.push _, (fun p hp => ⟨Heap.get?_push_of_some _ (N p hp).1, (N p hp).2⟩), ?_, ⟨h0, rfl⟩, ?_, ?_⟩
  · intro hm
    rcases List.mem_cons.mp hm with e | hm
    · exact absurd F.ns.lt (e ▸ Nat.lt_irrefl _)
    · exact z.2.1 (List.mem_singleton.mp hm).symm
  · intro b hb
    rw [List.mem_singleton.mp hb]
    exact next_is_new F
  · intro p hp hI
    exact absurd (Heap.lt_size (N p hp).1) ((List.mem_singleton.mp hI) ▸ Nat.lt_irrefl _)
  · rintro i s' v Q' ⟨hit, _⟩ hq
    cases v <;> first | exact wpAny_letOwnedTupleGo_listiter hit hq | exact wpAny_pure hq
  · rintro i v m₁ l s₁ own hi hv ⟨hJ, rfl⟩ hoff hown hget hall ⟨hit, _⟩ F₁ N₁
    obtain ⟨oI, st, _⟩ : ∃ oI, s₁.heap.get? s.heap.objs.size = some oI ∧ True := let ⟨o, ho, _⟩ := hit; ⟨o, ho, trivial⟩
    have hmem : (s.heap.objs.size, oI) ∈ own := hall _ (.head _) (next_is_new F) _ st
    have hgl : s₁.heap.get? gl = some (listOf gs gn) := (N₁ _ (List.mem_append_right _ hg)).1
    have own1 : ∀ p ∈ own, p = (s.heap.objs.size, oI) ∨ p = (gl, listOf gs gn) := fun p hp => by
      have h1 := hget p hp
      rcases List.mem_cons.mp (hown p hp) with e | e
      · rw [e, st] at h1
        exact .inl (Prod.ext e (Option.some.inj h1).symm)
      · have e := List.mem_singleton.mp e
        rw [e, hgl] at h1
        exact .inr (Prod.ext e (Option.some.inj h1).symm)
    have N₂ : News h₀ env.locals s₁.heap ((s.heap.objs.size, oI) :: l) := fun p hp => by
      rcases List.mem_cons.mp hp with rfl | hp
      · exact N₁ _ (List.mem_append_left _ hmem)
      · exact N₁ _ (List.mem_append_right _ hp)
    refine wpAny_mono (turn v m₁ s₁ _ _ (by have h := Array.mem_of_getElem? hv; simpa using h) hJ F₁ N₂) (fun _ s₃ q => wpAny_mono q (fun f s₄ p => ?_) fun _ _ e => e) fun _ _ e => e
    obtain ⟨rfl, h', tk, m', rfl, F', N', hJ'⟩ := p
    refine ⟨rfl, h', tk, m', l, rfl, F', fun p hp => ?_, hoff, hJ', rfl⟩
    rcases List.mem_append.mp hp with hp | hp
    · rcases own1 p hp with rfl | rfl
      · exact N' _ (.head _)
      · exact N' _ (.tail _ hg)
    · exact N' _ (.tail _ hp)
  · rintro h' tk m' l' F' N' _ ⟨hJ, rfl⟩
    exact done m' h' tk hJ F' N'
end
end Mine
/- part M6 -/
set_option Elab.async false
set_option maxRecDepth 100000
set_option maxHeartbeats 2000000
namespace Mine
theorem st_of {f : Str → Option (Option Value)} {a : SA} {es : List DictEntry} {e : Value} {u d : Str} (_T : TD f es e u d) (z : Stat f a) : St2 f a ∧ f (Str.ofString "status") = some (some (.str (Str.ofString "Active") 381)) := ⟨z.st2, z.status⟩
theorem for_T {prog : Program} {w : World} {A : Around} {s : Shared} {env : Env} {h₀ : Heap} {L : Addr} {m : Str → Option Value} {E : Value → Shared → Prop} {Q : Flow → Shared → Prop} {target iter : PySem.Expr} {pos : Pos} {body : List Stmt} (_F : Fr h₀ L s.heap m) (hE : PassesOwn (model prog w) A env E) (hs : ∀ x, foldedSetIterable iter env x = pure x)
    (h : wpAny (model prog w) A (eval iter env) (fun xv s₁ => wpAny (model prog w) A (pyIter xv) (fun it s₂ => LoopAtT prog w A h₀ env target body Q E it s₂) E s₁) E s) :
    wpAny (model prog w) A (exec (.For target iter body [] pos) env) Q E s := For_invT h₀ h hs hE
section
variable {prog : Program} {w : World} {A : Around} {E : Value → Shared → Prop} {s : Shared} {env : Env} {h₀ : Heap} {x : Str} {body : List Stmt} {Q : Flow → Shared → Prop} {L : Addr} {FL : List (Addr × Obj)} {m₀ : Str → Option Value}
theorem range_two {r : Addr} {t₀ u₀ v₀ : Tok} (J : (Str → Option Value) → Prop) (hh : A.handled = none) (hL : env.locals = L) (hr : IsRange s.heap r 0 2 1 t₀ u₀ v₀) (F : Fr h₀ L s.heap m₀) (N : News h₀ L s.heap FL) (h0 : J m₀)
    (turn : ∀ (i : Nat) t m₁ h tk I oI, i < 2 → I ∉ adrs FL → J m₁ → Fr h₀ L h (fun y => if y = x then some (.int (i : Int) t) else m₁ y) → News h₀ L h ((I, oI) :: FL) →
      wpAny (model prog w) A (execs body env) (GP h₀ L (fun m' l' => J m' ∧ l' = FL) I oI { s with heap := h, toks := tk } Q) E { s with heap := h, toks := tk })
    (done : ∀ m₁ h tk, J m₁ → Fr h₀ L h m₁ → News h₀ L h FL → Q .next { s with heap := h, toks := tk }) :
    wpAny (model prog w) A (pyIter (.ref r)) (fun it s₂ => LoopAtV prog w A h₀ env x body Q E it s₂) E s := by
  subst hL
  refine range_grow (n := 2) (fun _ m l => J m ∧ l = FL) hh hr (by decide) (by decide) F N ⟨h0, rfl⟩ ?_ (fun m₁ l h tk hJ F' N' => by
    obtain ⟨hJ, rfl⟩ := hJ
    exact done m₁ h tk hJ F' N')
  rintro i t m₁ l h tk I oI hi hI ⟨hJ, rfl⟩ F₁ N₁
  exact turn i t m₁ h tk I oI hi hI hJ F₁ N₁
end
end Mine
/- part MN -/
set_option Elab.async false
set_option maxRecDepth 100000
set_option maxHeartbeats 8000000
namespace Mine
theorem fill_aMN : PySem.Challenge.rw_ft5041_01 = PySem.Challenge.rw_ft5041_01 ∧ Mine.hd.heap_39 = Mine.hd.heap_39 := by
  k_fill
  exact ⟨rfl, rfl⟩
local macro_rules | `(tactic| walk_at "mA") => `(tactic| with_reducible assumption)
local macro_rules | `(tactic| walk_at "mK") => `(tactic| first | with_reducible assumption | rfl)
local macro_rules | `(tactic| walk_at "mM") => `(tactic| first | with_reducible assumption | with_reducible exact List.mem_cons_self | (with_reducible refine List.mem_cons_of_mem _ ?_; walk_at "mM") | (with_reducible refine List.mem_append_right _ ?_; walk_at "mM"))
local macro_rules | `(tactic| walk_at "mNT") => `(tactic| first | with_reducible assumption | with_reducible exact nd_tl (by with_reducible assumption) | with_reducible exact nd_tl (nd_tl (by with_reducible assumption)) | with_reducible exact nd_tl (nd_tl (nd_tl (by with_reducible assumption))) | with_reducible exact nd_tl (nd_tl (nd_tl (nd_tl (by with_reducible assumption)))))
local macro_rules | `(tactic| walk_at "mU") => `(tactic| first | with_reducible exact upd_hd (by with_reducible assumption) | (with_reducible refine' upd_tl2 ?u1 ?u2 ?u3; (case u2 => walk_at "mM"); (case u1 => with_reducible assumption); (case u3 => intro nd8; walk_at "mU")))
local macro_rules | `(tactic| walk_at "call ref") => `(tactic| (k_here; (with_reducible show wpAny _ _ (PySem.call (Value.ref 522) _ _) _ _ _); k_dflt (refine s_new (by walk_at "mA") (by walk_at "mA") (by walk_at "mA") (by walk_at "mA") (by walk_at "mA") (by walk_at "mK") (by decide) (by decide) (by walk_at "mND") ?_); intro x9 dx9 ea9 eo9 st9 f9 es9 n9 h9 tk9 T9 hk9 sm9 S9 F9 N9 nd9))
local macro_rules | `(tactic| walk_at "mND") => `(tactic| first | with_reducible assumption | k_dflt decide)
local macro_rules | `(tactic| walk_at "newList") => `(tactic| (k_here; k_dflt (refine' m_list ?k1 ?k2 ?k3 ?_; (case k1 => walk_at "mA"); (case k2 => walk_at "mA"); (case k3 => walk_at "mND")); intro l9 h9 F9 N9 nd9))
local macro_rules | `(tactic| walk_at "eval Dict") => `(tactic| (k_here; k_dflt (refine' m_dict ?k1 ?k2 ?k3 ?k4 ?k5 ?k6 ?k7 ?k8 ?k9 ?_; (case k1 => walk_at "mA"); (case k2 => walk_at "mA"); (case k3 => exact Top.nolimit (by walk_at "mA")); (case k4 => walk_at "mND"); (case k5 => rfl); (case k6 => rfl); (case k7 => rfl); (case k8 => exact List.cons_ne_nil _ _); (case k9 => exact Nat.le_of_ble_eq_true rfl)); intro d9 h9 o9 F9 N9 nd9 sm9 hd9))
local macro_rules | `(tactic| walk_at "eval Dict nil nil") => `(tactic| (k_here; k_dflt (refine' m_dict0 ?k1 ?k2 ?k3 ?k4 ?_; (case k1 => walk_at "mA"); (case k2 => walk_at "mA"); (case k3 => exact Top.nolimit (by walk_at "mA")); (case k4 => walk_at "mND")); intro d9 h9 o9 F9 N9 nd9 sm9 hd9))
local macro_rules | `(tactic| walk_at "KdnMade") => `(tactic| (k_here; k_dflt (refine' m_made ?k1 ?k2 ?k3 ?k4 ?k5 ?k6 ?k7 ?_; (case k1 => walk_at "mA"); (case k2 => walk_at "mA"); (case k3 => walk_at "mU"); (case k4 => walk_at "mND"); (case k5 => walk_at "mA"); (case k6 => rfl); (case k7 => exact of_decide_eq_true (by first | rfl | kernel_rfl!))); intro h9 o9 F9 N9 nd9 hd9; (try dsimp only at N9 nd9); (try dsimp only [strPairs, List.map_cons, List.map_nil] at hd9)))
local macro_rules | `(tactic| walk_at "getAttr ref") => `(tactic| (k_here; (with_reducible show wpAny _ _ (getAttr (Value.ref _) (PySem.Str.ofString "extension") _) _ _ _); k_dflt (refine' t_ext ?k1 ?k2 ?k3 ?k4 ?k5 ?k6 ?k7 ?_; (case k1 => walk_at "mA"); (case k2 => walk_at "mA"); (case k3 => walk_at "mA"); (case k4 => walk_at "mM"); (case k5 => walk_at "mM"); (case k6 => walk_at "mA"); (case k7 => rfl))))
local macro_rules | `(tactic| walk_at "subscriptTail Name Constant ref str") => `(tactic| (k_here; (with_reducible show wpAny _ _ (subscriptTail _ _ (Value.ref _) (Value.str _ _)) _ _ _); k_dflt (refine' o_item ?k1 ?k2 ?k3 ?k4 ?_ ?k5; (case k1 => walk_at "mA"); (case k2 => walk_at "mM"); (case k3 => walk_at "mA"); (case k4 => rfl); (case k5 => with_unfolding_all rfl)); (try dsimp only)))
local macro_rules | `(tactic| walk_at "subscriptTail Subscript Name Constant Constant ref str") => `(tactic| (k_here; (with_reducible show wpAny _ _ (subscriptTail _ _ (Value.ref _) (Value.str _ _)) _ _ _); k_dflt (refine' o_item ?k1 ?k2 ?k3 ?k4 ?_ ?k5; (case k1 => walk_at "mA"); (case k2 => walk_at "mM"); (case k3 => walk_at "mA"); (case k4 => rfl); (case k5 => with_unfolding_all rfl)); (try dsimp only)))
local macro_rules | `(tactic| walk_at "subscriptTail Name Constant ref int") => `(tactic| (k_here; (with_reducible show wpAny _ _ (subscriptTail _ _ (Value.ref _) (Value.int _ _)) _ _ _); k_dflt (refine' m_item ?k1 ?k2 ?k3 ?k4 ?k5 ?_ ?k6; (case k1 => walk_at "mA"); (case k2 => walk_at "mM"); (case k3 => decide); (case k4 => decide); (case k5 => rfl); (case k6 => with_unfolding_all rfl))))
local macro_rules | `(tactic| walk_at "subscriptTail Name Name ref int") => `(tactic| (k_here; (with_reducible show wpAny _ _ (subscriptTail _ _ (Value.ref _) (Value.int _ _)) _ _ _); k_dflt (refine' m_item ?k1 ?k2 ?k3 ?k4 ?k5 ?_ ?k6; (case k1 => walk_at "mA"); (case k2 => walk_at "mM"); (case k3 => decide); (case k4 => decide); (case k5 => rfl); (case k6 => with_unfolding_all rfl))))
local macro_rules | `(tactic| walk_at "compareOp Is ref ref") => `(tactic| (k_here; (with_reducible show wpAny _ _ (compareOp CmpOp.Is (Value.ref _) (Value.ref _)) _ _ _); k_dflt (refine' m_is ?k1 ?k2 ?k3 ?k4 ?k5 ?k6 ?_; (case k2 => walk_at "mA"); (case k3 => walk_at "mM"); (case k4 => walk_at "mM"); (case k5 => walk_at "mA"); (case k6 => walk_at "mA"); (case k1 => walk_at "mNE"))))
theorem ne1 {a b : Addr} {o o' : Obj} {r : List (Addr × Obj)} (nd : (adrs ((a, o) :: r)).Nodup) (hb : (b, o') ∈ r) : a ≠ b := fun e => (List.nodup_cons.mp nd).1 (by show a ∈ _; rw [e]; exact List.mem_map_of_mem (f := (·.1)) hb)
local macro_rules | `(tactic| walk_at "mNE") => `(tactic| ((rename List.Nodup _ => NZ); first | with_reducible exact ne1 NZ (by walk_at "mM") | with_reducible exact (ne1 NZ (by walk_at "mM")).symm | with_reducible exact ne1 (nd_tl NZ) (by walk_at "mM") | with_reducible exact (ne1 (nd_tl NZ) (by walk_at "mM")).symm | with_reducible exact ne1 (nd_tl (nd_tl NZ)) (by walk_at "mM") | with_reducible exact (ne1 (nd_tl (nd_tl NZ)) (by walk_at "mM")).symm | with_reducible exact ne1 (nd_tl (nd_tl (nd_tl NZ))) (by walk_at "mM") | with_reducible exact (ne1 (nd_tl (nd_tl (nd_tl NZ))) (by walk_at "mM")).symm | with_reducible exact ne1 (nd_tl (nd_tl (nd_tl (nd_tl NZ)))) (by walk_at "mM") | with_reducible exact (ne1 (nd_tl (nd_tl (nd_tl (nd_tl NZ)))) (by walk_at "mM")).symm | with_reducible exact ne1 (nd_tl (nd_tl (nd_tl (nd_tl (nd_tl NZ))))) (by walk_at "mM") | with_reducible exact (ne1 (nd_tl (nd_tl (nd_tl (nd_tl (nd_tl NZ))))) (by walk_at "mM")).symm | with_reducible exact ne1 (nd_tl (nd_tl (nd_tl (nd_tl (nd_tl (nd_tl NZ)))))) (by walk_at "mM") | with_reducible exact (ne1 (nd_tl (nd_tl (nd_tl (nd_tl (nd_tl (nd_tl NZ)))))) (by walk_at "mM")).symm | with_reducible exact ne1 (nd_tl (nd_tl (nd_tl (nd_tl (nd_tl (nd_tl (nd_tl NZ))))))) (by walk_at "mM") | with_reducible exact (ne1 (nd_tl (nd_tl (nd_tl (nd_tl (nd_tl (nd_tl (nd_tl NZ))))))) (by walk_at "mM")).symm | with_reducible exact ne1 (nd_tl (nd_tl (nd_tl (nd_tl (nd_tl (nd_tl (nd_tl (nd_tl NZ)))))))) (by walk_at "mM") | with_reducible exact (ne1 (nd_tl (nd_tl (nd_tl (nd_tl (nd_tl (nd_tl (nd_tl (nd_tl NZ)))))))) (by walk_at "mM")).symm | with_reducible exact ne1 (nd_tl (nd_tl (nd_tl (nd_tl (nd_tl (nd_tl (nd_tl (nd_tl (nd_tl NZ))))))))) (by walk_at "mM") | with_reducible exact (ne1 (nd_tl (nd_tl (nd_tl (nd_tl (nd_tl (nd_tl (nd_tl (nd_tl (nd_tl NZ))))))))) (by walk_at "mM")).symm | with_reducible exact ne1 (nd_tl (nd_tl (nd_tl (nd_tl (nd_tl (nd_tl (nd_tl (nd_tl (nd_tl (nd_tl NZ)))))))))) (by walk_at "mM") | with_reducible exact (ne1 (nd_tl (nd_tl (nd_tl (nd_tl (nd_tl (nd_tl (nd_tl (nd_tl (nd_tl (nd_tl NZ)))))))))) (by walk_at "mM")).symm | with_reducible exact ne1 (nd_tl (nd_tl (nd_tl (nd_tl (nd_tl (nd_tl (nd_tl (nd_tl (nd_tl (nd_tl (nd_tl NZ))))))))))) (by walk_at "mM") | with_reducible exact (ne1 (nd_tl (nd_tl (nd_tl (nd_tl (nd_tl (nd_tl (nd_tl (nd_tl (nd_tl (nd_tl (nd_tl NZ))))))))))) (by walk_at "mM")).symm | with_reducible exact ne1 (nd_tl (nd_tl (nd_tl (nd_tl (nd_tl (nd_tl (nd_tl (nd_tl (nd_tl (nd_tl (nd_tl (nd_tl NZ)))))))))))) (by walk_at "mM") | with_reducible exact (ne1 (nd_tl (nd_tl (nd_tl (nd_tl (nd_tl (nd_tl (nd_tl (nd_tl (nd_tl (nd_tl (nd_tl (nd_tl NZ)))))))))))) (by walk_at "mM")).symm | with_reducible exact ne1 (nd_tl (nd_tl (nd_tl (nd_tl (nd_tl (nd_tl (nd_tl (nd_tl (nd_tl (nd_tl (nd_tl (nd_tl (nd_tl NZ))))))))))))) (by walk_at "mM") | with_reducible exact (ne1 (nd_tl (nd_tl (nd_tl (nd_tl (nd_tl (nd_tl (nd_tl (nd_tl (nd_tl (nd_tl (nd_tl (nd_tl (nd_tl NZ))))))))))))) (by walk_at "mM")).symm | with_reducible exact ne1 (nd_tl (nd_tl (nd_tl (nd_tl (nd_tl (nd_tl (nd_tl (nd_tl (nd_tl (nd_tl (nd_tl (nd_tl (nd_tl (nd_tl NZ)))))))))))))) (by walk_at "mM") | with_reducible exact (ne1 (nd_tl (nd_tl (nd_tl (nd_tl (nd_tl (nd_tl (nd_tl (nd_tl (nd_tl (nd_tl (nd_tl (nd_tl (nd_tl (nd_tl NZ)))))))))))))) (by walk_at "mM")).symm | with_reducible exact ne1 (nd_tl (nd_tl (nd_tl (nd_tl (nd_tl (nd_tl (nd_tl (nd_tl (nd_tl (nd_tl (nd_tl (nd_tl (nd_tl (nd_tl (nd_tl NZ))))))))))))))) (by walk_at "mM") | with_reducible exact (ne1 (nd_tl (nd_tl (nd_tl (nd_tl (nd_tl (nd_tl (nd_tl (nd_tl (nd_tl (nd_tl (nd_tl (nd_tl (nd_tl (nd_tl (nd_tl NZ))))))))))))))) (by walk_at "mM")).symm))
local macro_rules | `(tactic| walk_at "compareOp NotEq ref ref") => `(tactic| (k_here; (with_reducible show wpAny _ _ (compareOp CmpOp.NotEq (Value.ref _) (Value.ref _)) _ _ _); k_dflt (refine' m_ne0 ?k1 ?k2 ?k3 ?k4 ?k5 ?k6 ?k7 ?k8 ?_; (case k1 => walk_at "mA"); (case k2 => walk_at "mM"); (case k3 => walk_at "mM"); (case k4 => walk_at "mA"); (case k5 => walk_at "mA"); (case k6 => walk_at "mSM"); (case k7 => walk_at "mSM"); (case k8 => exact Nat.le_of_ble_eq_true rfl))))
local macro_rules | `(tactic| walk_at "mSM") => `(tactic| with_reducible assumption)
theorem m_script {prog : Program} {w : World} {A : Around} {E : Value → Shared → Prop} {s : Shared} {h₀ : Heap} {L : Addr} {m : Str → Option Value} {value slice : PySem.Expr} {l : Addr} {vs : List Value} {ns : List Int} {i : Nat} {nn : Int} {u : Tok} {Q : Value → Shared → Prop} (F : Fr h₀ L s.heap m) (hl : h₀.IsList l vs.toArray) (hi : IntsAre vs ns) (hget : ns[i]? = some nn) (h20 : i < 20)
    (h : ∀ t, Q (.int nn t) s) (hs : subscripted slice false (.ref l) (.int (i : Int) u) = operate [.ref l, .int (i : Int) u] (getItem (.ref l) (.int (i : Int) u)) := by with_unfolding_all rfl) :
    wpAny (model prog w) A (subscriptTail value slice (.ref l) (.int (i : Int) u)) Q E s := by
  obtain ⟨t, hx⟩ := hi.get i _ hget
  exact item_litK (hl.at fun o e => F.keep l o e) (by omega) (by omega) (by simpa using hx) (h t) hs
local macro_rules | `(tactic| walk_at "subscriptTail Name Name ref int") => `(tactic| (k_here; (with_reducible show wpAny _ _ (subscriptTail _ _ (Value.ref _) (Value.int _ _)) _ _ _); k_dflt (refine' m_script ?k1 ?k2 ?k3 ?k4 ?k5 ?_ ?k6; (case k1 => walk_at "mA"); (case k2 => walk_at "mA"); (case k3 => walk_at "mA"); (case k4 => walk_at "mA"); (case k5 => walk_at "mA"); (case k6 => with_unfolding_all rfl)); intro t9))
theorem m_menu {w : World} {A : Around} {E : Value → Shared → Prop} {s : Shared} {h₀ : Heap} {L : Addr} {m : Str → Option Value} {value slice : PySem.Expr} {k : Int} {u : Tok} {Q : Value → Shared → Prop} (F : Fr h₀ L s.heap m) (X : (Mine.hd.heap_39 w.params).In h₀) (hk : 0 ≤ k ∧ k < 7)
    (h : ∀ va v q tq, (Mine.hd.heap_39 w.params).lookup va = some (tupO [v, .str q tq]) → Pair v q → q.length ≤ 8 → Q (.ref va) s) (hs : subscripted slice false (.ref 640) (.int k u) = operate [.ref 640, .int k u] (getItem (.ref 640) (.int k u)) := by with_unfolding_all rfl) :
    wpAny (model PR w) A (subscriptTail value slice (.ref 640) (.int k u)) Q E s := by
  obtain ⟨va, v, q, tq, h1, h2, h3, h4, h5, h6⟩ := menu (w := w) hk
  exact topTup_K F X h1 (by omega) (by omega) h2 h3 (h va v q tq h4 h5 h6) hs
local macro_rules | `(tactic| walk_at "subscriptTail Name BinOp ref int") => `(tactic| (k_here; (with_reducible show wpAny _ _ (subscriptTail _ _ (Value.ref 640) (Value.int _ _)) _ _ _); (try k_fmods); k_dflt (refine' m_menu ?k1 ?k2 ?k3 ?_ ?k4; (case k1 => walk_at "mA"); (case k2 => walk_at "mA"); (case k3 => omega); (case k4 => with_unfolding_all rfl)); intro va9 v9 q9 tq9 hv9 hp9 hq9))
theorem m_itemL {prog : Program} {w : World} {A : Around} {E : Value → Shared → Prop} {s : Shared} {h₀ : Heap} {L : Addr} {news : List (Addr × Obj)} {value slice : PySem.Expr} {l : Addr} {vs : List Value} {n : Nat} {k : Int} {u : Tok} {v : Value} {Q : Value → Shared → Prop} (N : News h₀ L s.heap news) (hx : vs[(k % 2).toNat]? = some v) (hm : (l, listOf vs.toArray n) ∈ news) (h : Q v s)
    (hs : subscripted slice false (.ref l) (.int (k.fmod 2) u) = operate [.ref l, .int (k.fmod 2) u] (getItem (.ref l) (.int (k.fmod 2) u)) := by with_unfolding_all rfl) :
    wpAny (model prog w) A (subscriptTail value slice (.ref l) (.int (k.fmod 2) u)) Q E s := by
  have e : k.fmod 2 = k % 2 := Int.fmod_eq_emod_of_nonneg _ (by decide)
  rw [e] at hs ⊢
  exact m_item N hm (by omega) (by omega) (by simpa using hx) h hs
theorem m_two {P : Prop} (h : P) : P := h
local macro_rules | `(tactic| walk_at "subscriptTail Name Name ref int") => `(tactic| (k_here; (with_reducible show wpAny _ _ (subscriptTail _ _ (Value.ref _) (Value.int (Int.fmod _ 2) _)) _ _ _); k_dflt (refine' m_itemL ?k1 ?k2 ?k3 ?_ ?k4; (case k1 => walk_at "mA"); (case k3 => walk_at "mM"); (case k2 => walk_at "mA"); (case k4 => with_unfolding_all rfl))))
/-- the walk stops here -/
def Halt (P : Prop) : Prop := P
theorem halt {P : Prop} (h : Halt P) : P := h
local macro_rules | `(tactic| walk_at "call ref cons") => `(tactic| (k_here; (with_reducible show wpAny _ _ (PySem.call (Value.ref 661) _ _) _ _ _); refine halt ?_))
local macro_rules | `(tactic| walk_at "call ref cons") => `(tactic| (k_here; (with_reducible show wpAny _ _ (PySem.call (Value.ref 654) _ _) _ _ _); refine halt ?_))
section
variable {prog : Program} {w : World} {M : Model} {A : Around} {E : Value → Shared → Prop} {s : Shared} {h₀ : Heap} {L a : Addr} {m : Str → Option Value} {news : List (Addr × Obj)} {o : Obj} {kvs : List (Str × Value)} {k : Str} {t : Tok} {v : Value} {g : Obj → List (Addr × Obj)}
theorem m_set {Q : Unit → Shared → Prop} (F : Fr h₀ L s.heap m) (N : News h₀ L s.heap news) (hm : (a, o) ∈ news) (hd : o.IsDictOf (strKind PR w) kvs) (U : UpdF a o news g) (nd : (adrs news).Nodup) (hz : kvs.length ≤ 100)
    (h : ∀ h' o', o'.IsDictOf (strKind PR w) (stored kvs k v) → Fr h₀ L h' m → News h₀ L h' (g o') → (adrs (g o')).Nodup → Q () { s with heap := h', toks := s.toks + 1 }) :
    wpAny (model PR w) A (setItem (.ref a) (.str k t) v) Q E s :=
  o_set F N hm hd U hz fun h' o' d' F' N' => h h' o' d' F' N' (by rw [updF_adrs U]; exact nd)
theorem m_tuple {vs : List Value} {Q : Value → Shared → Prop} (F : Fr h₀ L s.heap m) (N : News h₀ L s.heap news) (nd : (adrs news).Nodup) (hz : vs.length ≤ 100)
    (h : ∀ D h', Fr h₀ L h' m → News h₀ L h' ((D, tupO vs) :: news) → (adrs ((D, tupO vs) :: news)).Nodup → Q (.ref D) { s with heap := h' }) : wpAny M A (newTuple vs) Q E s :=
  kup_newTuple F N (fun D h' F' N' lt => h D h' F' N' (nd_cons lt nd)) (by rw [sizeLine_eq]; omega)
theorem m_append {its : Array Value} {n i : Nat} {x : Value} {Q : Value → Shared → Prop} (F : Fr h₀ L s.heap m) (N : News h₀ L s.heap news) (U : UpdF a (listOf its n) news g) (nd : (adrs news).Nodup) (hz : its.size ≤ i) (hi : i < 20)
    (h : ∀ h', Fr h₀ L h' m → News h₀ L h' (g (listOf (its.push x) (n + 1))) → (adrs (g (listOf (its.push x) (n + 1)))).Nodup → Q .none { s with heap := h' }) : wpAny (model prog w) A (call (.builtin "list.append") [.ref a, x]) Q E s :=
  append_K F N (upd_of U _) (fun h' F' N' => h h' F' N' (by rw [updF_adrs U]; exact nd)) (by rw [sizeLine_eq]; omega)
end
local macro_rules | `(tactic| walk_at "setItem ref str") => `(tactic| (k_here; k_dflt (refine' m_set ?k1 ?k2 ?k3 ?k4 ?k5 ?k7 ?k6 ?_; (case k1 => walk_at "mA"); (case k2 => walk_at "mA"); (case k3 => walk_at "mM"); (case k4 => walk_at "mA"); (case k5 => walk_at "mU"); (case k7 => walk_at "mND"); (case k6 => exact Nat.le_of_ble_eq_true rfl)); intro h9 o9 d9 F9 N9 nd9; (try dsimp only at N9 nd9)))
local macro_rules | `(tactic| walk_at "newTuple") => `(tactic| (k_here; k_dflt (refine' m_tuple ?k1 ?k2 ?k3 ?k4 ?_; (case k1 => walk_at "mA"); (case k2 => walk_at "mA"); (case k3 => walk_at "mND"); (case k4 => exact Nat.le_of_ble_eq_true rfl)); intro c9 h9 F9 N9 nd9))
local macro_rules | `(tactic| walk_at "call builtin:list.append") => `(tactic| (k_here; (with_reducible show wpAny _ _ (PySem.call (Value.builtin _) [Value.ref _, _]) _ _ _); k_dflt (refine' m_append ?k1 ?k2 ?k3 ?k4 ?k5 ?k6 ?_; (case k1 => walk_at "mA"); (case k2 => walk_at "mA"); (case k3 => walk_at "mU"); (case k4 => walk_at "mND"); (case k5 => walk_at "mA"); (case k6 => walk_at "mA")); intro h9 F9 N9 nd9; (try dsimp only at N9 nd9)))
theorem m_top0 {w : World} {A : Around} {E : Value → Shared → Prop} {s : Shared} {h₀ : Heap} {L : Addr} {m : Str → Option Value} {value slice : PySem.Expr} {va : Addr} {u : Tok} {v : Value} {q : Str} {tq : Tok} {Q : Value → Shared → Prop} (F : Fr h₀ L s.heap m) (X : (Mine.hd.heap_39 w.params).In h₀) (hv : (Mine.hd.heap_39 w.params).lookup va = some (tupO [v, .str q tq]))
    (h : Q v s) (hs : subscripted slice false (.ref va) (.int 0 u) = operate [.ref va, .int 0 u] (getItem (.ref va) (.int 0 u)) := by with_unfolding_all rfl) :
    wpAny (model PR w) A (subscriptTail value slice (.ref va) (.int 0 u)) Q E s :=
  topTup_K F X hv (by decide) (by decide) rfl rfl h hs
local macro_rules | `(tactic| walk_at "subscriptTail Name Constant ref int") => `(tactic| (k_here; (with_reducible show wpAny _ _ (subscriptTail _ _ (Value.ref _) (Value.int 0 _)) _ _ _); k_dflt (refine' m_top0 ?k1 ?k2 ?k3 ?_ ?k4; (case k1 => walk_at "mA"); (case k2 => walk_at "mA"); (case k3 => walk_at "mA"); (case k4 => with_unfolding_all rfl))))
local macro_rules | `(tactic| walk_at "mHU") => `(tactic| first | decide | exact Nat.le_of_ble_eq_true rfl)
local macro_rules | `(tactic| walk_at "getAttr ref") => `(tactic| (k_here; (with_reducible show wpAny _ _ (getAttr (Value.ref _) (PySem.Str.ofString "user") _) _ _ _); k_dflt (refine' s_user ?k1 ?k2 ?k3 ?k4 ?k5 ?k6 ?k7 ?k8 ?k9 ?ka ?kb ?_; (case k5 => walk_at "mA"); (case k7 => walk_at "mA"); (case k1 => walk_at "mM"); (case k2 => walk_at "mM"); (case k3 => walk_at "mA"); (case k4 => walk_at "mA"); (case k6 => walk_at "mA"); (case k8 => walk_at "mA"); (case k9 => walk_at "mK"); (case ka => walk_at "mHU"); (case kb => walk_at "mHU")); intro t9 h9 tk9 F9 N9))
local macro_rules | `(tactic| walk_at "getAttr ref") => `(tactic| (k_here; (with_reducible show wpAny _ _ (getAttr (Value.ref _) (PySem.Str.ofString "description") _) _ _ _); k_dflt (refine' s_desc ?k1 ?k2 ?k3 ?k4 ?k5 ?k6 ?k7 ?k8 ?k9 ?ka ?kb ?_; (case k5 => walk_at "mA"); (case k7 => walk_at "mA"); (case k1 => walk_at "mM"); (case k2 => walk_at "mM"); (case k3 => walk_at "mA"); (case k4 => walk_at "mA"); (case k6 => walk_at "mA"); (case k8 => walk_at "mA"); (case k9 => walk_at "mK"); (case ka => walk_at "mHU"); (case kb => walk_at "mHU")); intro t9 h9 tk9 F9 N9))
local macro_rules | `(tactic| walk_at "getAttr ref") => `(tactic| (k_here; (with_reducible show wpAny _ _ (getAttr (Value.ref _) (PySem.Str.ofString "_extension") _) _ _ _); k_dflt (refine' s_ext2 ?k0 ?k1 ?k2 ?k3 ?k4 ?k5 ?k6 ?k7 ?k8 ?k9 ?ka ?kb ?_; (case k5 => walk_at "mA"); (case k7 => walk_at "mA"); (case k1 => walk_at "mM"); (case k2 => walk_at "mM"); (case k3 => walk_at "mA"); (case k0 => rfl); (case k4 => walk_at "mA"); (case k6 => walk_at "mA"); (case k8 => walk_at "mA"); (case k9 => walk_at "mK"); (case ka => walk_at "mHU"); (case kb => walk_at "mHU")); intro h9 tk9 F9 N9))
local macro_rules | `(tactic| walk_at "compareOp IsNot ref ref") => `(tactic| (k_here; (with_reducible show wpAny _ _ (compareOp CmpOp.IsNot (Value.ref _) (Value.ref _)) _ _ _); k_dflt (refine m_isnot ?_)))
local macro_rules | `(tactic| walk_at "compareOp NotEq ref ref") => `(tactic| (k_here; (with_reducible show wpAny _ _ (compareOp CmpOp.NotEq (Value.ref _) (Value.ref _)) _ _ _); k_dflt (first
  | (refine' m_res ?k1 ?k2 ?k3 ?k4 ?_; (case k1 => walk_at "mA"); (case k2 => walk_at "mM"); (case k3 => walk_at "mM"); (case k4 => exact Nat.le_of_ble_eq_true rfl))
  | (refine' m_neq ?k1 ?k2 ?k3 ?k4 ?k5 ?k6 ?k7 ?k8 ?_; (case k1 => walk_at "mA"); (case k2 => walk_at "mM"); (case k3 => walk_at "mM"); (case k4 => walk_at "mA"); (case k5 => walk_at "mA"); (case k6 => walk_at "mSM"); (case k7 => walk_at "mSM"); (case k8 => exact Nat.le_of_ble_eq_true rfl)))))
theorem m_nes {prog : Program} {w : World} {A : Around} {E : Value → Shared → Prop} {s : Shared} {x : Str} {t u : Tok} {Q : Value → Shared → Prop} (h : Q (.bool false) s) : wpAny (model prog w) A (compareOp .NotEq (.str x t) (.str x u)) Q E s :=
  PyProof.Rows.ne_str (by rw [bne_self_eq_false]; exact h)
local macro_rules | `(tactic| walk_at "compareOp NotEq str str") => `(tactic| (k_here; with_reducible refine m_nes ?_))
local macro_rules | `(tactic| walk_at "pyIter ref") => `(tactic| (k_here; (with_reducible show wpAny _ _ (pyIter (Value.ref _)) _ _ _); refine halt ?_))
local macro_rules | `(tactic| walk_at "exec For Tuple Name cons nil") => `(tactic| (k_here; (with_reducible show wpAny _ _ (exec (Stmt.For (Expr.Tuple _ _ _) _ _ [] _) _) _ _ _); k_dflt (refine' for_T ?a ?b ?c ?_; (case a => walk_at "mA"); (case b => passes_own); (case c => (intro _; rfl)))))
local macro_rules | `(tactic| walk_at "exec For Name Call cons nil") => `(tactic| (k_here; (with_reducible show wpAny _ _ (exec (Stmt.For (Expr.Name _ _) _ _ [] _) _) _ _ _); k_dflt (refine' for_F ?a ?b ?c ?d ?e ?_; (case a => walk_at "mA"); (case b => rfl); (case c => rfl); (case d => passes_own); (case e => (intro _; rfl)))))
local macro_rules | `(tactic| walk_at "call ref") => `(tactic| (k_here; (with_reducible show wpAny _ _ (PySem.call (Value.ref 272) _ _) _ _ _); k_dflt (refine' m_sd ?ka ?kb ?kc ?kd ?ke ?kf ?kg ?kh ?ki ?kj ?kk ?kl ?km ?_; (case ka => walk_at "mA"); (case kb => walk_at "mA"); (case kc => walk_at "mA"); (case kd => walk_at "mA"); (case ke => walk_at "mA"); (case kf => walk_at "mK"); (case kg => walk_at "mHU"); (case kh => walk_at "mHU"); (case ki => walk_at "mM"); (case kj => walk_at "mM"); (case kk => walk_at "mA"); (case kl => walk_at "mU"); (case km => walk_at "mA")); intro h9 tk9 es9 n9 T9 F9 N9 nd9; (try dsimp only at N9 nd9)))
local macro_rules | `(tactic| walk_at "call ref") => `(tactic| (k_here; (with_reducible show wpAny _ _ (PySem.call (Value.ref 336) _ _) _ _ _); k_dflt (refine' s_commit ?ka ?kb ?kc ?kd ?ke ?kf ?kg ?kh ?ki ?kj ?kk ?kl ?km ?_; (case ka => walk_at "mA"); (case kb => walk_at "mA"); (case kc => walk_at "mA"); (case kd => walk_at "mA"); (case ke => walk_at "mA"); (case kf => walk_at "mK"); (case kg => walk_at "mHU"); (case kh => walk_at "mHU"); (case ki => walk_at "mA"); (case kj => walk_at "mA"); (case kk => walk_at "mA"); (case kl => walk_at "mA"); (case km => walk_at "mA")); intro h9 tk9 f9 es9 n9 ps9 T9 F9 N9 nd9; (try dsimp only at N9 nd9)))
local macro_rules | `(tactic| walk_at "call ref") => `(tactic| (k_here; (with_reducible show wpAny _ _ (PySem.call (Value.ref 490) _ _) _ _ _); k_dflt (refine' s_abort ?ka ?kb ?kc ?kd ?ke ?kf ?kg ?kh ?ki ?kj ?kk ?kl ?_; (case ka => walk_at "mA"); (case kb => walk_at "mA"); (case kc => walk_at "mA"); (case kd => walk_at "mA"); (case ke => walk_at "mA"); (case kf => walk_at "mK"); (case kg => walk_at "mHU"); (case kh => walk_at "mHU"); (case ki => walk_at "mA"); (case kj => walk_at "mA"); (case kk => walk_at "mA"); (case kl => walk_at "mA")); intro h9 tk9 f9 es9 n9 ps9 T9 F9 N9; (try dsimp only at N9 nd9)))
local macro_rules | `(tactic| walk_at "getMethod ref") => `(tactic| (k_here; (with_reducible show wpAny _ _ (getMethod (Value.ref _) _ _) _ _ _); k_dflt (refine' t_meth ?ka ?kb ?kc ?kd ?ke ?kf ?kg ?kh ?ki ?kj ?_; (case ka => walk_at "mA"); (case kb => walk_at "mA"); (case kc => walk_at "mA"); (case kd => walk_at "mM"); (case ke => walk_at "mM"); (case kf => walk_at "mA"); (case kg => decide +kernel); (case kh => k_is); (case ki => k_is); (case kj => k_is))))
theorem m_setW {w : World} {A : Around} {E : Value → Shared → Prop} {s : Shared} {h₀ : Heap} {L a : Addr} {m : Str → Option Value} {news : List (Addr × Obj)} {o : Obj} {u ws mi e v : Value} {t : Tok} {g : Obj → List (Addr × Obj)} {Q : Unit → Shared → Prop} (F : Fr h₀ L s.heap m) (N : News h₀ L s.heap news) (hm : (a, o) ∈ news) (hd : o.IsDictOf (strKind PR w) (D4 u ws mi e)) (U : UpdF a o news g) (nd : (adrs news).Nodup)
    (h : ∀ h' o', o'.IsDictOf (strKind PR w) (D4 u v mi e) → Fr h₀ L h' m → News h₀ L h' (g o') → (adrs (g o')).Nodup → Q () { s with heap := h', toks := s.toks + 1 }) :
    wpAny (model PR w) A (setItem (.ref a) (.str (Str.ofString "words") t) v) Q E s :=
  m_set F N hm hd U nd (Nat.le_of_ble_eq_true rfl) fun h' o' d' F' N' nd' => h h' o' d' F' N' nd'
local macro_rules | `(tactic| walk_at "setItem ref str") => `(tactic| (k_here; (with_reducible show wpAny _ _ (setItem (Value.ref _) (Value.str (PySem.Str.ofString "words") _) _) _ _ _); k_dflt (refine' m_setW ?k1 ?k2 ?k3 ?k4 ?k5 ?k6 ?_; (case k1 => walk_at "mA"); (case k2 => walk_at "mA"); (case k3 => walk_at "mM"); (case k4 => walk_at "mA"); (case k5 => walk_at "mU"); (case k6 => walk_at "mND")); intro h9 o9 d9 F9 N9 nd9; (try dsimp only at N9 nd9)))
theorem m_unpack {prog : Program} {w : World} {A : Around} {E : Value → Shared → Prop} {s : Shared} {env : Env} {h₀ : Heap} {L t : Addr} {m : Str → Option Value} {news : List (Addr × Obj)} {vs : List Value} {elts : List PySem.Expr} {k : Nat} {pos : Pos} {Q : Unit → Shared → Prop} (F : Fr h₀ L s.heap m) (N : News h₀ L s.heap news) (hc : (t, tupO vs) ∈ news)
    (hh : A.handled = none) (hn : (assignEach elts env).length = vs.length) (hstar : (assignEach elts env).findIdx? (·.1) = none)
    (h : ∀ h', Fr h₀ L h' m → News h₀ L h' news → wpAny (model prog w) A (assignInOrder ((assignEach elts env).map (·.2)) vs) Q E { s with heap := h' }) :
    wpAny (model prog w) A (assign (.Tuple elts k pos) env (.ref t)) Q E s :=
  unpackN_ F N (News.isTup N hc) hh (by simpa using hn) hstar h
local macro_rules | `(tactic| walk_at "assign Tuple cons ref") => `(tactic| (k_here; (with_reducible show wpAny _ _ (assign (Expr.Tuple _ _ _) _ (Value.ref _)) _ _ _); k_dflt (refine' m_unpack ?k1 ?k2 ?k3 ?k4 ?k5 ?k6 ?_; (case k1 => walk_at "mA"); (case k2 => walk_at "mA"); (case k3 => walk_at "mM"); (case k4 => exact rfl); (case k5 => exact rfl); (case k6 => exact rfl)); intro h9 F9 N9))
theorem law_holds : PySem.Challenge.rw_ft5041_01.Holds := Mine.hd (by
  k_go0
  all_goals try k_fold
  k_steps
  show wpAny _ _ (pyIter _) _ _ _
  rename IsRange _ _ _ _ _ _ _ _ => RR
  rename Fr _ _ _ _ => FF
  rename News _ _ _ _ => NN
  refine' loop_law (by exact rfl) (by exact rfl) RR FF (start_news NN _ _ _ _) (start_inv NN ?nd ⟨?n1, ?n2, ?n3, ?n4⟩ ?T0 ?T1 ?he0 ?he1 ?hm0 ?hm1 ?se0 ?se1 ?sm0 ?sm1 ?hd0 ?hd1) ?x0 ?x1 ?tl ?dl ?core ?done
  case nd => assumption
  case n1 => rfl
  case n2 => rfl
  case n3 => rfl
  case n4 => rfl
  case T0 => assumption
  case T1 => assumption
  case he0 => assumption
  case he1 => assumption
  case hm0 => assumption
  case hm1 => assumption
  case se0 => assumption
  case se1 => assumption
  case sm0 => assumption
  case sm1 => assumption
  case hd0 => assumption
  case hd1 => assumption
  case x0 => exact .tail _ (.tail _ (.head _))
  case x1 => exact .tail _ (.tail _ (.tail _ (.head _)))
  case tl => exact .head _
  case dl => exact .tail _ (.head _)
  case core =>
    (repeat (rename News _ _ _ _ => zz; clear zz)); (repeat (rename Fr _ _ _ _ => zz; clear zz)); (repeat (rename List.Nodup _ => zz; clear zz)); (repeat (rename Obj.IsDictOf _ _ _ => zz; clear zz)); (repeat (rename (_ == sysModules) = false => zz; clear zz)); (repeat (rename TD _ _ _ _ _ => zz; clear zz)); (repeat (rename Stat _ _ => zz; clear zz))
    unfold Core
    intro i t x dx da f S gs gn T u h tk I oI nn hi hin hget hx hd hxT htl hdl ok hgs nd F N
    obtain ⟨td, dd, de, dm, len, wlen, se, sm⟩ := ok
    k_steps
    · show wpAny _ _ _ _ _ _
      k_dflt (refine' due_B ?B ?F ?X ?N ?T ?hk ?hd ?hu ?nd ?hdo ?hmo ?hz ?hv ?hpv ?hp ?hq ?hr ?hws ?hW ?_; (case B => walk_at "mA"); (case F => walk_at "mA"); (case X => walk_at "mA"); (case N => walk_at "mA"); (case T => walk_at "mA"); (case hk => walk_at "mK"); (case hd => decide); (case hu => decide); (case nd => walk_at "mA"); (case hdo => (rename Obj.IsDictOf _ _ _ => DA); exact DA); (case hmo => walk_at "mA"); (case hz => exact Nat.le_of_ble_eq_true rfl); (case hv => walk_at "mA"); (case hpv => walk_at "mA"); (case hp => walk_at "mA"); (case hq => walk_at "mA"); (case hr => walk_at "mA"); (case hws => omega); (case hW => walk_at "mA"))
      intro rl t1 t2 l2 od1 om1 tu1 tw1 h1 tk1 F1 N1 nd1 rl1 sub1 nda1 od1' om1'
      k_steps
      show wpAny _ _ _ _ _ _
      k_dflt (refine' told_B ?B ?F ?X ?N ?T ?XB ?TB ?hk ?hd ?hu ?nd2 ?hrl ?sub ?nd ?hx ?TT ?hke ?hz ?hp ?hpr ?hq ?hr ?hdl ?hW ?_; (case B => walk_at "mA"); (case F => walk_at "mA"); (case X => walk_at "mA"); (case N => walk_at "mA"); (case T => walk_at "mA"); (case XB => walk_at "mA"); (case TB => walk_at "mA"); (case hk => walk_at "mK"); (case hd => decide); (case hu => decide); (case nd2 => walk_at "mA"); (case hrl => walk_at "mA"); (case sub => exact sub1); (case nd => exact nda1); (case hx => walk_at "mM"); (case TT => walk_at "mA"); (case hke => walk_at "mA"); (case hz => omega); (case hp => walk_at "mA"); (case hpr => walk_at "mA"); (case hq => walk_at "mA"); (case hr => walk_at "mA"); (case hdl => omega); (case hW => walk_at "mA"))
      intro rt t3 t4 es2 n2 eo2 h2 tk2 F2 N2 td2 eo2'
      k_steps
      (rename Fr _ _ _ _ => FZ); (rename News _ _ _ _ => NZ)
      exact close_B wlen hgs (by assumption) (by assumption) (by assumption) FZ NZ td2 od1' (by assumption) om1' eo2' dm ⟨rfl, rfl, rfl, rfl⟩
    · show wpAny _ _ _ _ _ _
      k_dflt (refine' due_A ?B ?F ?X ?N ?T ?hk ?hd ?hu ?nd ?hdo ?hmo ?hz ?hv ?hpv ?hp ?hq ?hr ?hws ?_; (case B => walk_at "mA"); (case F => walk_at "mA"); (case X => walk_at "mA"); (case N => walk_at "mA"); (case T => walk_at "mA"); (case hk => walk_at "mK"); (case hd => decide); (case hu => decide); (case nd => walk_at "mA"); (case hdo => walk_at "mA"); (case hmo => walk_at "mA"); (case hz => omega); (case hv => walk_at "mA"); (case hpv => walk_at "mA"); (case hp => walk_at "mA"); (case hq => walk_at "mA"); (case hr => walk_at "mA"); (case hws => omega))
      intro rl t1 t2 l2 od1 om1 tu1 tw1 h1 tk1 F1 N1 nd1 rl1 sub1 nda1 od1' om1'
      k_steps
      show wpAny _ _ _ _ _ _
      k_dflt (refine' told_A ?B ?F ?X ?N ?T ?XB ?TB ?hk ?hd ?hu ?nd2 ?hrl ?sub ?nd ?hx ?TT ?hke ?hz ?hp ?hpr ?hq ?hr ?hdl ?hW ?_; (case B => walk_at "mA"); (case F => walk_at "mA"); (case X => walk_at "mA"); (case N => walk_at "mA"); (case T => walk_at "mA"); (case XB => walk_at "mA"); (case TB => walk_at "mA"); (case hk => walk_at "mK"); (case hd => decide); (case hu => decide); (case nd2 => walk_at "mA"); (case hrl => walk_at "mA"); (case sub => exact sub1); (case nd => exact nda1); (case hx => walk_at "mM"); (case TT => walk_at "mA"); (case hke => walk_at "mA"); (case hz => omega); (case hp => walk_at "mA"); (case hpr => walk_at "mA"); (case hq => walk_at "mA"); (case hr => walk_at "mA"); (case hdl => omega); (case hW => walk_at "mA"))
      intro rt t3 t4 es2 n2 eo2 h2 tk2 F2 N2 td2 eo2'
      k_steps
      (rename Fr _ _ _ _ => FZ); (rename News _ _ _ _ => NZ)
      exact close_A (by assumption) len wlen se sm hgs nd FZ NZ td2 od1' om1' eo2' ⟨rfl, rfl, rfl, rfl⟩
  case done =>
    (repeat (rename News _ _ _ _ => zz; clear zz)); (repeat (rename Fr _ _ _ _ => zz; clear zz)); (repeat (rename List.Nodup _ => zz; clear zz)); (repeat (rename Obj.IsDictOf _ _ _ => zz; clear zz)); (repeat (rename (_ == sysModules) = false => zz; clear zz)); (repeat (rename TD _ _ _ _ _ => zz; clear zz))
    intro i m₁ l h tk hi HI F N
    obtain ⟨hn, S0, S1, gs, gn, T, rfl, nd, ok0, ok1, hgs, XX, rfl, hgiv⟩ := HI
    rw [names_chain0 hn] at F
    have N1 := perm_news end_perm N
    have nd1 := perm_nd end_perm nd
    clear N nd
    obtain ⟨td0, dd0, de0, dm0, _, _, se0, sm0⟩ := ok0
    obtain ⟨td1, dd1, de1, dm1, _, _, se1, sm1⟩ := ok1
    obtain ⟨s20, hs0⟩ := st_of td0 (by assumption)
    obtain ⟨s21, hs1⟩ := st_of td1 (by assumption)
    k_steps
    show wpAny _ _ (pyIter _) _ _ _
    (rename IsRange _ _ _ _ _ _ _ _ => R2); (rename Fr _ _ _ _ => F2); (rename News _ _ _ _ => N2)
    refine' range_two (Names _ _ _ _) (by exact rfl) (by exact rfl) R2 F2 N2 ⟨rfl, rfl, rfl, rfl⟩ ?turn ?done2
    case turn =>
      clear R2 F2 N2
      intro i t m₁ h tk I oI hi hI hJ F N
      rw [names_chain0 hJ] at F
      dsimp only at F
      rcases (show i = 0 ∨ i = 1 by omega) with rfl | rfl
      all_goals k_steps
      all_goals (rename Fr _ _ _ _ => FZ)
      all_goals (rename News _ _ _ _ => NZ)
      all_goals exact ⟨_, _, _, _, rfl, FZ, NZ, hI, ⟨rfl, rfl, rfl, rfl⟩, rfl⟩
    case done2 =>
      clear R2 F2 N2
      intro m₁ h tk hJ F N
      rw [names_chain0 hJ] at F
      k_steps
      show wpAny _ _ (pyIter _) _ _ _
      refine' iter_given (gs := gs) (gn := gn) (Names _ _ _ _) (by exact rfl) (by exact rfl) F N ?hg ⟨rfl, rfl, rfl, rfl⟩ ?turn ?done3
      case hg => walk_at "mM"
      case turn =>
        clear F N
        intro v m₁ s₁ I oI hv hJ F N
        rw [names_chain0 hJ] at F
        obtain ⟨c, a, b, rfl, hc, hp⟩ := hgiv v hv
        rcases hp with hp | ⟨oa, ob, kvs, ha, hb, da, db, sa, sb⟩
        · rcases List.mem_cons.mp hp with e | hp
          · cases e
            k_steps
            (rename Fr _ _ _ _ => FZ); (rename News _ _ _ _ => NZ)
            exact ⟨rfl, _, _, _, rfl, FZ, NZ, rfl, rfl, rfl, rfl⟩
          · have e := List.mem_singleton.mp hp
            cases e
            k_steps
            (rename Fr _ _ _ _ => FZ); (rename News _ _ _ _ => NZ)
            exact ⟨rfl, _, _, _, rfl, FZ, NZ, rfl, rfl, rfl, rfl⟩
        · k_steps
          (rename Fr _ _ _ _ => FZ); (rename News _ _ _ _ => NZ)
          exact ⟨rfl, _, _, _, rfl, FZ, NZ, rfl, rfl, rfl, rfl⟩
      case done3 =>
        clear F N
        intro m₁ h tk hJ F N
        rw [names_chain0 hJ] at F
        k_steps)

end Mine
theorem PySem.Challenge.cw_ft5041_01_holds : PySem.Challenge.rw_ft5041_01.Holds := by
  exact Mine.law_holds
