import PyProof.Rows.All
import Wide.All
import OpenK.AllK
import Wide.FinOn
import Lean
import PySem.Challenge.RW_wn0055_01
open PySem PySem.W PyProof.Rows
set_option Elab.async false
set_option compiler.extract_closed false
set_option genSizeOf false
set_option genInjectivity false
namespace Mine
section
section
/-! The head: the text's top, run by the kernel in both worlds of the one row that it asks; no twins. -/
noncomputable abbrev hdP : Program := PySem.Challenge.pw_wn0055_01
noncomputable abbrev hdV : Program := PySem.W.view hdP [1, 6, 7, 9, 10, 11, 12, 13, 14, 15]
abbrev hdL : List Str := [Str.ofString "insort_right", Str.ofString "bisect_right", Str.ofString "COMPILER_FLAG_NAMES"]
noncomputable abbrev hdX : Shared → Bool := fun s => xlAt hdV [] s && recOk (RowW.records Challenge.rw_wn0055_01.row.toRowW) s
theorem hd_boot {p q : Program} {loose : List Str} {Xt : Shared → Bool} {α : Type} {Yf : Shared → α} {Ya : World → α} {N : Nat} {g0 : Bool} (row : String)
    (o : ∀ w : World, (fencedOpening treeTable p w N).map (fun s => (s.heap, s.gens, s.drawn, s.toks)) = some (boot_heap w.params, Array.mk [], boot_drawn, boot_toks))
    (hf : ∀ (w : World) (os : OsState), (topFrom treeTable p (w.withFollow row false) N ⟨boot_heap (w.withFollow row false).params, Array.mk [], boot_drawn, boot_toks, os⟩).map (fun s => (openSeen q loose (importedModules p.main.body) Xt g0 s, Yf s)) = some (openGood q loose, Ya (w.withFollow row false)))
    (ht : ∀ (w : World) (os : OsState), (topFrom treeTable p (w.withFollow row true) N ⟨boot_heap (w.withFollow row true).params, Array.mk [], boot_drawn, boot_toks, os⟩).map (fun s => (openSeen q loose (importedModules p.main.body) Xt g0 s, Yf s)) = some (openGood q loose, Ya (w.withFollow row true))) :
    LeftO p q loose Xt Yf Ya N g0 := fun w => by
  obtain ⟨⟨h, gs, d, k, os⟩, e, e'⟩ := Option.map_eq_some_iff.mp (o w)
  obtain ⟨rfl, rfl, rfl, rfl⟩ : h = boot_heap w.params ∧ gs = Array.mk [] ∧ d = boot_drawn ∧ k = boot_toks := by simpa using e'
  unfold openEnds
  rw [e]
  exact byRow2 row (P := fun w => ∀ os, (topFrom treeTable p w N ⟨boot_heap w.params, Array.mk [], boot_drawn, boot_toks, os⟩).map (fun s => (openSeen q loose (importedModules p.main.body) Xt g0 s, Yf s)) = some (openGood q loose, Ya w)) hf ht w os
theorem hd_opens : opening hdP = plainProg hdP.main.scope.names := by kernel_rfl
theorem hd_fence : ∀ s, fenceModules? hdP s = some s := by intro s; kernel_rfl
theorem hd_boots : ∀ w : World, (fencedOpening treeTable hdP w 1740).map (fun s => (s.heap, s.gens, s.drawn, s.toks)) = some (boot_heap w.params, Array.mk [], boot_drawn, boot_toks) := boot_open hd_opens (by decide) hd_fence
set_option maxRecDepth 100000
theorem hd_looks : looksOpen hdP = true := by
  unfold looksOpen
  repeat' (with_reducible refine look_both ?_ ?_)
  all_goals decide +kernel
theorem hd_row : Challenge.rw_wn0055_01.row.wellSaid = true := by
  unfold OpenRow.wellSaid OpenRow.partSaid
  repeat' (with_reducible refine look_both ?_ ?_)
  exact hd_looks
  all_goals decide +kernel
theorem hd_law : Challenge.rw_wn0055_01.wellSaid = true := by
  unfold OpenLaw.wellSaid
  repeat' (with_reducible refine look_both ?_ ?_)
  exact hd_row
  all_goals decide +kernel
/-- km_head lays the written part of the heap; the rest of the head is below -/
local macro_rules | `(tactic| o_head $_:term) => `(tactic| assumption)
theorem hk (h : Challenge.rw_wn0055_01.row.Holds) : Challenge.rw_wn0055_01.row.Holds := by
  km_head
abbrev hdA : List Addr := [2, 3, 6, 22, 24, 25, 27, 28, 29, 31, 32, 34, 35, 36, 38, 39, 41, 42, 43, 45, 46, 48, 49, 50, 51, 52, 53, 54, 57, 58, 59, 61, 62, 64, 65, 66, 67, 68, 70, 71, 73, 74, 75, 76, 78, 79, 81, 82, 83, 85, 86, 88, 89, 90, 93, 94, 95, 97, 98, 100, 101, 102, 104, 105, 107, 108, 109, 112, 113, 114, 117, 118, 119, 122, 123]
theorem hdA_eq (P : Params) : hdA = (Mine.hk.heap_1 P).map (·.1) := by kernel_rfl
noncomputable abbrev hdH : Hook := kmHook Mine.hk.heap_1 hdA hdA_eq [84]
theorem hd_left_f (w : World) (os : OsState) : (topFrom treeTable hdP (w.withFollow "special-get-raises" false) 1740 ⟨boot_heap (w.withFollow "special-get-raises" false).params, Array.mk [], boot_drawn, boot_toks, os⟩).map (fun s => (openSeen hdV hdL (importedModules hdP.main.body) hdX true s, hdH.obs s)) = some (openGood hdV hdL, hdH.val (w.withFollow "special-get-raises" false)) := by
  kernel_rfl
theorem hd_left_t (w : World) (os : OsState) : (topFrom treeTable hdP (w.withFollow "special-get-raises" true) 1740 ⟨boot_heap (w.withFollow "special-get-raises" true).params, Array.mk [], boot_drawn, boot_toks, os⟩).map (fun s => (openSeen hdV hdL (importedModules hdP.main.body) hdX true s, hdH.obs s)) = some (openGood hdV hdL, hdH.val (w.withFollow "special-get-raises" true)) := by
  kernel_rfl
theorem hd_left : LeftO hdP hdV hdL hdX hdH.obs hdH.val 1740 := hd_boot "special-get-raises" hd_boots hd_left_f hd_left_t
local macro_rules | `(tactic| o_law) => `(tactic| refine holds_law hd_law fun said => ?_)
local macro_rules | `(tactic| k_head) => `(tactic| refine PySem.W.holds_open (XP := XL hdV []) (YP := (kmHook Mine.hk.heap_1 hdA hdA_eq [84]).says) hd_left hdH.of hdH.keeps (fun s e => xl_of s (Bool.and_eq_true_iff.mp e).1) XL.keeps (by rfl) (by rfl) (by rfl) (fun s e => recFacts_of (Bool.and_eq_true_iff.mp e).2) (by rfl) (by assumption) (by decide +kernel) ⟨rfl, rfl, rfl, rfl, rfl, by decide +kernel⟩ ?hw ?hc)
set_option maxHeartbeats 8000000 in
open_top hd for PySem.Challenge.rw_wn0055_01
end
end
theorem walk_off : True := by
  w_top off
  trivial
section

abbrev Led := List (Addr × Obj)

abbrev topE (dp un : Nat) (gd : Option (List Code)) (env : Env) (outer : List Env) : Around := { handled := none, depth := dp, frames := some (env :: outer), guards := gd, units := un }

/-- a call of `f` on `vs` and `kws`, over the ledger `news`; what it may leave behind: `Post` -/
noncomputable abbrev Ctr (w : World) (loose : List Str) (mean : ExcName → Option Value) (mg mb : Str → Option Value) (kd ku : Nat) (f : Addr) (vs : List Value) (kws : List (Str × Value)) (news : Led) (Post : Value → Led → Prop) : Prop :=
  ∀ (dp un : Nat) (gd : Option (List Code)) (env : Env) (outer : List Env) (A₀ : Around) (base h₀ : Heap) (L : Addr) (m : Str → Option Value) (s : Shared) (R : Result → Shared → Prop),
    Below A₀ base outer h₀ → Fr h₀ L s.heap m → (Mine.hk.heap_1 w.params).In h₀ → News h₀ L s.heap news → Top topProg loose mean mg mb h₀ → env.frame = some L → env.scope.kind = .function → dp + kd < recursionLimit → un + ku < cLine →
    (∀ (r : Value) (news' : Led) (h' : Heap) (tk' : Nat), Post r news' → Fr h₀ L h' m → News h₀ L h' news' → R (.ok (.ret r)) { s with heap := h', toks := tk' }) →
    codeAny (model Challenge.rw_wn0055_01.row.prog w) (topE dp un gd env outer) (.call (.ref f) ⟨vs, kws⟩) R s

theorem Ctr.use {w : World} {loose : List Str} {mean : ExcName → Option Value} {mg mb : Str → Option Value} {kd ku : Nat} {f : Addr} {vs : List Value} {kws : List (Str × Value)} {news : Led} {Post : Value → Led → Prop}
    {dp un : Nat} {gd : Option (List Code)} {env : Env} {outer : List Env} {A₀ : Around} {base h₀ : Heap} {L : Addr} {m : Str → Option Value} {s : Shared} {R : Result → Shared → Prop}
    (B : Below A₀ base outer h₀) (F : Fr h₀ L s.heap m) (X : (Mine.hk.heap_1 w.params).In h₀) (N : News h₀ L s.heap news) (T : Top topProg loose mean mg mb h₀) (hf : env.frame = some L) (hk : env.scope.kind = .function) (hd : dp + kd < recursionLimit) (hu : un + ku < cLine)
    (C : Ctr w loose mean mg mb kd ku f vs kws news Post)
    (ret : ∀ (r : Value) (news' : Led) (h' : Heap) (tk' : Nat), Post r news' → Fr h₀ L h' m → News h₀ L h' news' → R (.ok (.ret r)) { s with heap := h', toks := tk' }) :
    codeAny (model Challenge.rw_wn0055_01.row.prog w) (topE dp un gd env outer) (.call (.ref f) ⟨vs, kws⟩) R s := C _ _ _ _ _ _ _ _ _ _ _ _ B F X N T hf hk hd hu ret

/-- the same, where the call's ground bears `H`: over the ledger `news`; what it may leave behind: `Post` -/
noncomputable abbrev CtrH (H : Heap → Prop) (w : World) (loose : List Str) (mean : ExcName → Option Value) (mg mb : Str → Option Value) (kd ku : Nat) (f : Addr) (vs : List Value) (kws : List (Str × Value)) (news : Led) (Post : Value → Led → Prop) : Prop :=
  ∀ (dp un : Nat) (gd : Option (List Code)) (env : Env) (outer : List Env) (A₀ : Around) (base h₀ : Heap) (L : Addr) (m : Str → Option Value) (s : Shared) (R : Result → Shared → Prop),
    Below A₀ base outer h₀ → Fr h₀ L s.heap m → (Mine.hk.heap_1 w.params).In h₀ → News h₀ L s.heap news → Top topProg loose mean mg mb h₀ → env.frame = some L → env.scope.kind = .function → dp + kd < recursionLimit → un + ku < cLine → H h₀ →
    (∀ (r : Value) (news' : Led) (h' : Heap) (tk' : Nat), Post r news' → Fr h₀ L h' m → News h₀ L h' news' → R (.ok (.ret r)) { s with heap := h', toks := tk' }) →
    codeAny (model Challenge.rw_wn0055_01.row.prog w) (topE dp un gd env outer) (.call (.ref f) ⟨vs, kws⟩) R s

theorem CtrH.use {H : Heap → Prop} {w : World} {loose : List Str} {mean : ExcName → Option Value} {mg mb : Str → Option Value} {kd ku : Nat} {f : Addr} {vs : List Value} {kws : List (Str × Value)} {news : Led} {Post : Value → Led → Prop}
    {dp un : Nat} {gd : Option (List Code)} {env : Env} {outer : List Env} {A₀ : Around} {base h₀ : Heap} {L : Addr} {m : Str → Option Value} {s : Shared} {R : Result → Shared → Prop}
    (B : Below A₀ base outer h₀) (F : Fr h₀ L s.heap m) (X : (Mine.hk.heap_1 w.params).In h₀) (N : News h₀ L s.heap news) (T : Top topProg loose mean mg mb h₀) (hf : env.frame = some L) (hk : env.scope.kind = .function) (hd : dp + kd < recursionLimit) (hu : un + ku < cLine) (hH : H h₀)
    (C : CtrH H w loose mean mg mb kd ku f vs kws news Post)
    (ret : ∀ (r : Value) (news' : Led) (h' : Heap) (tk' : Nat), Post r news' → Fr h₀ L h' m → News h₀ L h' news' → R (.ok (.ret r)) { s with heap := h', toks := tk' }) :
    codeAny (model Challenge.rw_wn0055_01.row.prog w) (topE dp un gd env outer) (.call (.ref f) ⟨vs, kws⟩) R s := C _ _ _ _ _ _ _ _ _ _ _ _ B F X N T hf hk hd hu hH ret

abbrev pairO (v p : Int) (t u : Tok) : Obj := { cls := .type "tuple", data := .seq #[.int v t, .int p u] }

/-- the items: tuples of a number and a place, somewhere on the ledger -/
inductive Its (news : Led) : List Value → List (Int × Int) → Prop
  | nil : Its news [] []
  | cons {t : Addr} {v p : Int} {k u : Tok} {vs : List Value} {xs : List (Int × Int)} : (t, pairO v p k u) ∈ news → Its news vs xs → Its news (.ref t :: vs) ((v, p) :: xs)

theorem Its.length {news : Led} {vs : List Value} {xs : List (Int × Int)} (h : Its news vs xs) : vs.length = xs.length := by
  induction h with
  | nil => rfl
  | cons _ _ ih => simp [ih]
theorem Its.mono {news news' : Led} {vs : List Value} {xs : List (Int × Int)} (h : Its news vs xs) (hs : ∀ t v p k u, (t, pairO v p k u) ∈ news → (t, pairO v p k u) ∈ news') : Its news' vs xs := by
  induction h with
  | nil => exact .nil
  | cons hm _ ih => exact .cons (hs _ _ _ _ _ hm) ih
theorem Its.get {news : Led} {vs : List Value} {xs : List (Int × Int)} (h : Its news vs xs) : ∀ (i : Nat) (x : Int × Int), xs[i]? = some x → ∃ t k u, vs[i]? = some (.ref t) ∧ (t, pairO x.1 x.2 k u) ∈ news := by
  induction h with
  | nil => intro i x hx; simp at hx
  | @cons t v p k u vs xs hm _ ih =>
    intro i x hx
    cases i with
    | zero => simp at hx; subst hx; exact ⟨t, k, u, by simp, hm⟩
    | succ i => simp at hx; obtain ⟨t', k', u', h1, h2⟩ := ih i x hx; exact ⟨t', k', u', by simpa using h1, h2⟩
theorem Its.append {news : Led} {vs ws : List Value} {xs ys : List (Int × Int)} (h : Its news vs xs) (g : Its news ws ys) : Its news (vs ++ ws) (xs ++ ys) := by
  induction h with
  | nil => exact g
  | cons hm _ ih => exact .cons hm ih
theorem Its.take {news : Led} {vs : List Value} {xs : List (Int × Int)} (h : Its news vs xs) : ∀ n, Its news (vs.take n) (xs.take n) := by
  induction h with
  | nil => intro n; simp; exact .nil
  | cons hm _ ih => intro n; cases n with
    | zero => exact .nil
    | succ n => exact .cons hm (ih n)
theorem Its.drop {news : Led} {vs : List Value} {xs : List (Int × Int)} (h : Its news vs xs) : ∀ n, Its news (vs.drop n) (xs.drop n) := by
  induction h with
  | nil => intro n; simp; exact .nil
  | cons hm g ih => intro n; cases n with
    | zero => exact .cons hm g
    | succ n => exact ih n

/-- how many are not greater -/
def cnt (xs : List (Int × Int)) (x : Int) : Nat := xs.countP (fun y => decide (y.1 ≤ x))

theorem cnt_of {xs : List (Int × Int)} {x : Int} {n : Nat} (hn : n ≤ xs.length) (h1 : ∀ i y, i < n → xs[i]? = some y → y.1 ≤ x) (h2 : ∀ i y, n ≤ i → xs[i]? = some y → x < y.1) : cnt xs x = n := by
  unfold cnt
  have e : xs = xs.take n ++ xs.drop n := (List.take_append_drop n xs).symm
  rw [e, List.countP_append]
  have a : (xs.take n).countP (fun y => decide (y.1 ≤ x)) = (xs.take n).length := by
    rw [List.countP_eq_length]
    intro y hy
    obtain ⟨i, hi⟩ := List.mem_iff_getElem?.mp hy
    rw [List.getElem?_take] at hi
    split at hi
    · rename_i hlt; simpa using h1 i y hlt hi
    · cases hi
  have b : (xs.drop n).countP (fun y => decide (y.1 ≤ x)) = 0 := by
    rw [List.countP_eq_zero]
    intro y hy
    obtain ⟨i, hi⟩ := List.mem_iff_getElem?.mp hy
    rw [List.getElem?_drop] at hi
    have := h2 (n + i) y (by omega) hi
    simp; omega
  rw [a, b, List.length_take]
  omega

theorem pull {h₀ h : Heap} {L a : Addr} {o : Obj} {news : Led} (N : News h₀ L h news) (hm : (a, o) ∈ news) : ∃ rest : Led, News h₀ L h ((a, o) :: rest) ∧ (∀ p ∈ rest, p.1 ≠ a) ∧ (∀ p ∈ news, p.1 ≠ a → p ∈ rest) ∧ (∀ p ∈ rest, p ∈ news) := by
  refine ⟨news.filter (fun p => decide (p.1 ≠ a)), ?_, ?_, ?_, ?_⟩
  · intro p hp
    rcases List.mem_cons.mp hp with rfl | hp
    · exact N _ hm
    · exact N _ (List.mem_filter.mp hp).1
  · intro p hp; simpa using (List.mem_filter.mp hp).2
  · intro p hp hne; exact List.mem_filter.mpr ⟨hp, by simpa using hne⟩
  · intro p hp; exact (List.mem_filter.mp hp).1

/-- a frame's names, of which some are known -/
def bindK (ks : List (Str × Value)) (u : Str → Option Value) : Str → Option Value := fun y => match ks.lookup y with
  | some v => some v
  | none => u y
theorem lookup_mem {ks : List (Str × Value)} {y : Str} {v : Value} : ks.lookup y = some v → (y, v) ∈ ks := by
  induction ks with
  | nil => intro h; simp at h
  | cons p r ih =>
    obtain ⟨a, b⟩ := p
    intro h
    rw [List.lookup_cons] at h
    split at h
    · rename_i e
      have : y = a := by simpa using e
      cases h; subst this; exact .head _
    · exact .tail _ (ih h)
theorem bindK_eq {m : Str → Option Value} (ks : List (Str × Value)) (h : ∀ p ∈ ks, m p.1 = some p.2) : m = bindK ks m := by
  funext y
  unfold bindK
  split
  · rename_i v e; exact h _ (lookup_mem e)
  · rfl
theorem Fr.bindK {h₀ h : Heap} {L : Addr} {m : Str → Option Value} (F : Fr h₀ L h m) (ks : List (Str × Value)) (hk : ∀ p ∈ ks, m p.1 = some p.2) : Fr h₀ L h (Mine.bindK ks m) := by
  rw [← bindK_eq ks hk]; exact F
def AllB : List (Str × Value) → (Str → Option Value) → Prop
  | [], _ => True
  | p :: r, m => m p.1 = some p.2 ∧ AllB r m
theorem AllB.all : ∀ {ks : List (Str × Value)} {m : Str → Option Value}, AllB ks m → ∀ p ∈ ks, m p.1 = some p.2
  | [], _, _, _, hp => nomatch hp
  | q :: r, m, h, p, hp => by
    rcases List.mem_cons.mp hp with rfl | hp
    · exact h.1
    · exact AllB.all h.2 p hp
theorem Fr.bindA {h₀ h : Heap} {L : Addr} {m : Str → Option Value} (F : Fr h₀ L h m) {ks : List (Str × Value)} (hk : AllB ks m) : Fr h₀ L h (Mine.bindK ks m) := Fr.bindK F ks hk.all
theorem apart {h₀ h : Heap} {L a b : Addr} {o o' : Obj} {news : Led} (N : News h₀ L h news) (ha : (a, o) ∈ news) (hb : (b, o') ∈ news) (hne : o.cls ≠ o'.cls) : a ≠ b := by
  intro e
  subst e
  have h1 := (N _ ha).1
  have h2 := (N _ hb).1
  dsimp only at h1 h2
  rw [h1] at h2
  cases h2
  exact hne rfl
theorem apart2 {h₀ h : Heap} {L a b : Addr} {o o' : Obj} {news : Led} (N : News h₀ L h news) (ha : (a, o) ∈ news) (hb : (b, o') ∈ news) (hne : o ≠ o') : a ≠ b := by
  intro e
  subst e
  have h1 := (N _ ha).1
  have h2 := (N _ hb).1
  dsimp only at h1 h2
  rw [h1] at h2
  cases h2
  exact hne rfl
theorem append_L {prog : Program} {w : World} {A : Around} {E : Value → Shared → Prop} {s : Shared} {h₀ : Heap} {L D : Addr} {m : Str → Option Value} {news news' : Led} {vs : List Value} {n : Nat} {y : Value} {Q : Value → Shared → Prop} (F : Fr h₀ L s.heap m) (N : News h₀ L s.heap news)
    (hz : vs.length ≤ 1000) (U : Upd D (listOf vs.toArray n) (listOf (vs ++ [y]).toArray (n + 1)) news news') (h : ∀ h', Fr h₀ L h' m → News h₀ L h' news' → Q .none { s with heap := h' }) :
    wpAny (model prog w) A (call (.builtin "list.append") [.ref D, y]) Q E s := by
  refine append_K F N (by rw [List.push_toArray]; exact U) h ?_
  simp [PySem.sizeLine_eq]; omega
theorem ins_list {prog : Program} {w : World} {A : Around} {E : Value → Shared → Prop} {s : Shared} {h₀ : Heap} {L D : Addr} {m : Str → Option Value} {news news' : Led} {vs : List Value} {n k : Nat} {u : Tok} {y : Value} {Q : Value → Shared → Prop} (F : Fr h₀ L s.heap m) (N : News h₀ L s.heap news)
    (hk : k ≤ vs.length) (hz : vs.length ≤ 1000)
    (U : Upd D (listOf vs.toArray n) (listOf (vs.take k ++ y :: vs.drop k).toArray (n + 1)) news news') (h : ∀ h', Fr h₀ L h' m → News h₀ L h' news' → Q .none { s with heap := h' }) :
    wpAny (model prog w) A (call (.builtin "list.insert") [.ref D, .int (k : Int) u, y]) Q E s := by
  refine kl_insert F N ?_ ?_ U ?_ h
  · unfold Builtin.List.listFitsIndex
    simp; omega
  · unfold kl_ins
    have : ¬ ((k : Int) < 0) := by omega
    simp [this, Nat.min_eq_left hk]
  · simp [PySem.sizeLine_eq]; omega
theorem pop0_L {prog : Program} {w : World} {A : Around} {E : Value → Shared → Prop} {s : Shared} {h₀ : Heap} {L D : Addr} {m : Str → Option Value} {news news' : Led} {y : Value} {q : List Value} {n : Nat} {u : Tok} {Q : Value → Shared → Prop} (F : Fr h₀ L s.heap m) (N : News h₀ L s.heap news)
    (hz : (y :: q).length ≤ 1000) (U : Upd D (listOf (y :: q).toArray n) (listOf q.toArray (n + 1)) news news') (h : ∀ h', Fr h₀ L h' m → News h₀ L h' news' → Q y { s with heap := h' }) :
    wpAny (model prog w) A (call (.builtin "list.pop") [.ref D, .int 0 u]) Q E s := by
  refine kl_popAt (k := 0) (p := []) (q := q) F N rfl ?_ rfl U ?_ h
  · unfold seqIndex?
    simp
  · simp [PySem.sizeLine_eq] at *; omega
theorem last_snoc (q : List Value) (y : Value) : kl_last (q ++ [y]) = some (q, y) := by
  induction q with
  | nil => rfl
  | cons a r ih =>
    show (match kl_last (r ++ [y]) with | some (p, y) => some (a :: p, y) | none => some ([], a)) = _
    rw [ih]
theorem popLast_L {prog : Program} {w : World} {A : Around} {E : Value → Shared → Prop} {s : Shared} {h₀ : Heap} {L D : Addr} {m : Str → Option Value} {news news' : Led} {y : Value} {q : List Value} {n : Nat} {Q : Value → Shared → Prop} (F : Fr h₀ L s.heap m) (N : News h₀ L s.heap news)
    (hz : (q ++ [y]).length ≤ 1000) (U : Upd D (listOf (q ++ [y]).toArray n) (listOf q.toArray (n + 1)) news news') (h : ∀ h', Fr h₀ L h' m → News h₀ L h' news' → Q y { s with heap := h' }) :
    wpAny (model prog w) A (call (.builtin "list.pop") [.ref D]) Q E s := by
  refine kl_pop (p := q) F N ?_ U ?_ h
  · exact last_snoc q y
  · simp [PySem.sizeLine_eq] at *; omega
theorem ins_its {news : Led} {vs : List Value} {xs : List (Int × Int)} {t : Addr} {v p : Int} {a b : Tok} (h : Its news vs xs) (k : Nat) (hm : (t, pairO v p a b) ∈ news) : Its news (vs.take k ++ .ref t :: vs.drop k) (xs.take k ++ (v, p) :: xs.drop k) :=
  (h.take k).append (.cons hm (h.drop k))
theorem Fr.bindX {h₀ h : Heap} {L : Addr} {m : Str → Option Value} {x : Str} {v : Value} {ks : List (Str × Value)} (F : Fr h₀ L h (fun y => if y = x then some v else m y)) (hk : AllB ks m) : Fr h₀ L h (Mine.bindK ((x, v) :: ks) m) := by
  have e : (fun y => if y = x then some v else m y) = Mine.bindK ((x, v) :: ks) m := by
    funext y
    unfold Mine.bindK
    rw [List.lookup_cons]
    by_cases h : y = x
    · subst h; simp
    · have : (y == x) = false := by simpa using h
      rw [if_neg h, this]
      dsimp only
      exact congrFun (bindK_eq ks hk.all) y
  rw [← e]; exact F
theorem strs_len {vs : List Value} {xs : List Str} (h : StrsAre vs xs) : vs.length = xs.length := by
  induction h with
  | nil => rfl
  | cons _ _ _ ih => simp [ih]
theorem strs_append {vs ws : List Value} {xs ys : List Str} (h : StrsAre vs xs) (g : StrsAre ws ys) : StrsAre (vs ++ ws) (xs ++ ys) := by
  induction h with
  | nil => exact g
  | cons _ _ _ ih => exact .cons _ _ ih
theorem strs_snoc {vs : List Value} {xs : List Str} (h : StrsAre vs xs) (x : Str) (t : Tok) : StrsAre (vs ++ [.str x t]) (xs ++ [x]) := strs_append h (.cons _ _ .nil)
def flagName : Nat → Str
  | 0 => ⟨#[79, 80, 84, 73, 77, 73, 90, 69, 68]⟩
  | 1 => ⟨#[78, 69, 87, 76, 79, 67, 65, 76, 83]⟩
  | 2 => ⟨#[86, 65, 82, 65, 82, 71, 83]⟩
  | 3 => ⟨#[86, 65, 82, 75, 69, 89, 87, 79, 82, 68, 83]⟩
  | _ => ⟨#[78, 69, 83, 84, 69, 68]⟩
/-- the names of the lowest `i` places of `k` that are set -/
def flagsUpTo (k : Nat) : Nat → List Str
  | 0 => []
  | i + 1 => flagsUpTo k i ++ (if k.testBit i then [flagName i] else [])
theorem flagsUpTo_length (k i : Nat) : (flagsUpTo k i).length ≤ i := by
  induction i with
  | zero => exact Nat.le_refl _
  | succ i ih => unfold flagsUpTo; rw [List.length_append]; split <;> simp <;> omega
def flags (k : Nat) : List Str := flagsUpTo k 5
def PF (k : Nat) : Str := Txt.join (Str.ofString ", ") (flags k)
theorem fl_and0 : ∀ (k : Nat), k < 32 → ∀ (i : Nat), i < 5 → Builtin.bitAnd (((k >>> i) <<< i : Nat) : Int) (1 * 2 ^ (0 + (i : Int) * 1).toNat) = 0 → k.testBit i = false ∧ (k >>> i) <<< i = (k >>> (i + 1)) <<< (i + 1) := by decide +kernel
theorem fl_and1 : ∀ (k : Nat), k < 32 → ∀ (i : Nat), i < 5 → Builtin.bitAnd (((k >>> i) <<< i : Nat) : Int) (1 * 2 ^ (0 + (i : Int) * 1).toNat) ≠ 0 → k.testBit i = true ∧ Builtin.bitXor (((k >>> i) <<< i : Nat) : Int) (1 * 2 ^ (0 + (i : Int) * 1).toNat) = (((k >>> (i + 1)) <<< (i + 1) : Nat) : Int) := by decide +kernel
theorem fl_done : ∀ (k : Nat), k < 32 → ∀ (i : Nat), i < 6 → (k >>> i) <<< i = 0 → flagsUpTo k i = flags k := by decide +kernel
theorem fl_five : ∀ (k : Nat), k < 32 → (k >>> 5) <<< 5 = 0 := by decide +kernel
theorem news_dup {h₀ h : Heap} {L : Addr} {q : Addr × Obj} {news : Led} (N : News h₀ L h news) (hq : q ∈ news) : News h₀ L h (q :: news) := fun p hp => by
  rcases List.mem_cons.mp hp with rfl | hp
  · exact N _ hq
  · exact N _ hp
theorem flags_set {k i : Nat} {vs : List Value} {x : Str} {t : Tok} (h : StrsAre vs (flagsUpTo k i)) (hb : k.testBit i = true) (hx : x = flagName i) : StrsAre (vs ++ [.str x t]) (flagsUpTo k (i + 1)) := by
  unfold flagsUpTo
  rw [if_pos hb, hx]
  exact strs_snoc h _ _
theorem flags_clr {k i : Nat} {vs : List Value} (h : StrsAre vs (flagsUpTo k i)) (hb : k.testBit i = false) : StrsAre vs (flagsUpTo k (i + 1)) := by
  unfold flagsUpTo
  rw [if_neg (by rw [hb]; exact Bool.false_ne_true), List.append_nil]
  exact h
theorem cast_ne {a : Int} {n : Nat} (e : a = n) (h : a ≠ 0) : n ≠ 0 := by omega
theorem cast_eq0 {a : Int} {n : Nat} (e : a = n) (h : a = 0) : n = 0 := by omega
theorem fl_weight : ∀ (k : Nat), k < 32 → ((flags k).map (·.length)).sum + (flags k).length ≤ 1048576 := by decide +kernel
theorem bnd {p : Addr × Obj} {l : Led} {d : Addr} (hp : p ∈ l) (h : ∀ q ∈ l, q.1 < d) : @LT.lt Nat _ p.1 d := h p hp
/-- a lexer's dict -/
abbrev lexD (w : World) (ln : Int) (t : Tok) (ins : Value) (P : Addr) (a0 a1 a2 a3 a4 : Tok) : Obj := dictOf [
  { hash := PyData.keyHash w.params (Str.ofString "lineno"), key := .str (Str.ofString "lineno") a0, val := .int ln t },
  { hash := PyData.keyHash w.params (Str.ofString "instream"), key := .str (Str.ofString "instream") a1, val := ins },
  { hash := PyData.keyHash w.params (Str.ofString "whitespace"), key := .str (Str.ofString "whitespace") a2, val := .str (Str.ofString "\n\t\r ") a3 },
  { hash := PyData.keyHash w.params (Str.ofString "pushback"), key := .str (Str.ofString "pushback") a4, val := .ref P }] 4
/-- the stream's dict -/
abbrev strD (w : World) (t : Tok) (P f : Addr) (a0 a1 a2 a3 a4 a5 : Tok) : Obj := dictOf [
  { hash := PyData.keyHash w.params (Str.ofString "lineno"), key := .str (Str.ofString "lineno") a0, val := .int 1 t },
  { hash := PyData.keyHash w.params (Str.ofString "instream"), key := .str (Str.ofString "instream") a1, val := .none },
  { hash := PyData.keyHash w.params (Str.ofString "whitespace"), key := .str (Str.ofString "whitespace") a2, val := .str (Str.ofString "\n\t\r ") a3 },
  { hash := PyData.keyHash w.params (Str.ofString "pushback"), key := .str (Str.ofString "pushback") a4, val := .ref P },
  { hash := PyData.keyHash w.params (Str.ofString "read"), key := .str (Str.ofString "read") a5, val := .ref f }] 5
structure LexIds where
  (x d P xs ds PS f c' cl G : Addr)
  (fd : FuncData)
  (oc ocl : Obj)
  (a0 a1 a2 a3 a4 ts b0 b1 b2 b3 b4 b5 : Tok)
abbrev LexIds.ofn (X : LexIds) : Obj := { cls := .type "function", data := .func X.fd }
/-- the stream's own def: what a call of it does -/
def PieceSpec (w : World) (loose : List Str) (mean : ExcName → Option Value) (mg mb : Str → Option Value) (X : LexIds) : Prop :=
  ∀ (news : Led) (sg : List Value) (nG : Nat) (tk : Tok), (X.f, X.ofn) ∈ news → (X.c', X.oc) ∈ news → (X.cl, X.ocl) ∈ news → (X.G, listOf sg.toArray nG) ∈ news → sg.length ≤ 900 →
    (sg = [] → Ctr w loose mean mg mb 1 10 X.f [.int 1 tk] [] news (fun r n => (∃ t, r = .str (Str.ofString "") t) ∧ n = news)) ∧
    (∀ sg' v, sg = sg' ++ [v] → Ctr w loose mean mg mb 1 10 X.f [.int 1 tk] [] news (fun r n => r = v ∧ (X.G, listOf sg'.toArray (nG + 1)) ∈ n ∧ ∀ p ∈ news, p.1 ≠ X.G → p ∈ n))
structure Piece (w : World) (loose : List Str) (mean : ExcName → Option Value) (mg mb : Str → Option Value) (X : LexIds) : Prop where
  hoc : ∃ vs, X.oc.data = .fields vs
  hocl : X.ocl.data = .cell (some (.ref X.G))
  spec : PieceSpec w loose mean mg mb X
/-- the lexer as it stands: the line's number, the signs that are left (the last one comes first) -/
structure LexAt (w : World) (X : LexIds) (ln : Int) (sg : List Value) (news : Led) : Prop where
  hx : (X.x, instObj 52 X.d) ∈ news
  hd : ∃ t, (X.d, lexD w ln t (.ref X.xs) X.P X.a0 X.a1 X.a2 X.a3 X.a4) ∈ news
  hxs : (X.xs, instObj 52 X.ds) ∈ news
  hds : (X.ds, strD w X.ts X.PS X.f X.b0 X.b1 X.b2 X.b3 X.b4 X.b5) ∈ news
  hf : (X.f, X.ofn) ∈ news
  hc : (X.c', X.oc) ∈ news
  hcl : (X.cl, X.ocl) ∈ news
  hG : ∃ n, (X.G, listOf sg.toArray n) ∈ news
theorem LexAt.frame {w : World} {X : LexIds} {ln : Int} {sg : List Value} {news news' : Led} (H : LexAt w X ln sg news) (h : ∀ p ∈ news, p.2.cls = .ref 52 ∨ p.1 = X.d ∨ p.1 = X.ds ∨ p.1 = X.f ∨ p.1 = X.c' ∨ p.1 = X.cl ∨ p.1 = X.G → p ∈ news') : LexAt w X ln sg news' where
  hx := h _ H.hx (.inl rfl)
  hd := let ⟨t, ht⟩ := H.hd; ⟨t, h _ ht (.inr (.inl rfl))⟩
  hxs := h _ H.hxs (.inl rfl)
  hds := h _ H.hds (.inr (.inr (.inl rfl)))
  hf := h _ H.hf (.inr (.inr (.inr (.inl rfl))))
  hc := h _ H.hc (.inr (.inr (.inr (.inr (.inl rfl)))))
  hcl := h _ H.hcl (.inr (.inr (.inr (.inr (.inr (.inl rfl))))))
  hG := let ⟨n, hn⟩ := H.hG; ⟨n, h _ hn (.inr (.inr (.inr (.inr (.inr (.inr rfl))))))⟩
/-- a sign that a word is made of -/
structure Plain (c : Str) : Prop where
  ws : (Builtin.Str.occurrences (Str.ofString "\n\t\r ") c 0 (Str.length (Str.ofString "\n\t\r ")) 1).isEmpty = true
  qu : (c == Str.ofString "\"") = false
  bs : (c == Str.ofString "\\") = false
  ne : c ≠ Str.ofString ""
  nl : ¬ c = Str.ofString "\n"
  len : c.length = 1
def encP : List (Bool × Str) → List Str
  | [] => []
  | (e, c) :: r => (if e then [Str.ofString "\\", c] else [c]) ++ encP r
def txtP (t : Str) : List (Bool × Str) → Str
  | [] => t
  | (_, c) :: r => txtP (t ++ c) r
theorem strs_unsnoc {xs : List Str} {x : Str} : ∀ {vs : List Value}, StrsAre vs (xs ++ [x]) → ∃ vs' t, vs = vs' ++ [.str x t] ∧ StrsAre vs' xs := by
  induction xs with
  | nil =>
    intro vs h
    cases h with
    | cons y t h => cases h; exact ⟨[], t, rfl, .nil⟩
  | cons a r ih =>
    intro vs h
    cases h with
    | cons y t h =>
      obtain ⟨vs', t', rfl, h'⟩ := ih h
      exact ⟨_ :: vs', t', rfl, .cons _ _ h'⟩
/-- the lexer with the signs that are still to come -/
def LexF (w : World) (X : LexIds) (ln : Int) (cs : List Str) (news : Led) : Prop := ∃ sg, LexAt w X ln sg news ∧ StrsAre sg cs.reverse
theorem LexF.next {w : World} {X : LexIds} {ln : Int} {c : Str} {cs : List Str} {news : Led} (h : LexF w X ln (c :: cs) news) : ∃ sg tc, LexAt w X ln (sg ++ [.str c tc]) news ∧ StrsAre sg cs.reverse ∧ sg.length = cs.length := by
  obtain ⟨sg, h1, h2⟩ := h
  rw [List.reverse_cons] at h2
  obtain ⟨sg', t, rfl, h3⟩ := strs_unsnoc h2
  exact ⟨sg', t, h1, h3, by rw [h3.length, List.length_reverse]⟩
theorem LexF.frame {w : World} {X : LexIds} {ln : Int} {cs : List Str} {news news' : Led} (h : LexF w X ln cs news) (hs : ∀ p ∈ news, p ∈ news') : LexF w X ln cs news' := by
  obtain ⟨sg, h1, h2⟩ := h
  exact ⟨sg, h1.frame fun p hp _ => hs p hp, h2⟩
def Hold (P : Prop) : Prop := P
theorem Hold.intro {P : Prop} (h : P) : Hold P := h
theorem Hold.out {P : Prop} (h : Hold P) : P := h
end
section
section
variable {w : World} {loose : List Str} {mean : ExcName → Option Value} {mg mb : Str → Option Value} {kd ku : Nat} {f : Addr} {vs : List Value} {kws : List (Str × Value)} {news : Led}
    {dp un : Nat} {gd : Option (List Code)} {env : Env} {outer : List Env} {A₀ : Around} {base h₀ : Heap} {L : Addr} {m : Str → Option Value} {s : Shared} {Q E : Value → Shared → Prop}
theorem call_of {Post : Value → Led → Prop}
    (B : Below A₀ base outer h₀ := by k_asm) (F : Fr h₀ L s.heap m := by k_asm) (X : (Mine.hk.heap_1 w.params).In h₀ := by k_asm) (N : News h₀ L s.heap news := by k_asm) (T : Top topProg loose mean mg mb h₀ := by k_asm) (hf : env.frame = some L := by first | exact rfl | assumption) (hk : env.scope.kind = .function := by first | exact rfl | assumption) (hd : dp + kd < recursionLimit := by ktr_room) (hu : un + ku < cLine := by ktr_units)
    (C : Ctr w loose mean mg mb kd ku f vs kws news Post)
    (ret : ∀ (r : Value) (n : Led) (h' : Heap) (tk' : Nat), Post r n → Fr h₀ L h' m → News h₀ L h' n → Q r { s with heap := h', toks := tk' }) :
    wpAny (model Challenge.rw_wn0055_01.row.prog w) (topE dp un gd env outer) (call (.ref f) vs kws) Q E s := wpAny_call (Ctr.use B F X N T hf hk hd hu C ret)
theorem call_val {g : Tok → Value}
    (B : Below A₀ base outer h₀ := by k_asm) (F : Fr h₀ L s.heap m := by k_asm) (X : (Mine.hk.heap_1 w.params).In h₀ := by k_asm) (N : News h₀ L s.heap news := by k_asm) (T : Top topProg loose mean mg mb h₀ := by k_asm) (hf : env.frame = some L := by first | exact rfl | assumption) (hk : env.scope.kind = .function := by first | exact rfl | assumption) (hd : dp + kd < recursionLimit := by ktr_room) (hu : un + ku < cLine := by ktr_units)
    (C : Ctr w loose mean mg mb kd ku f vs kws news fun r n => (∃ k, r = g k) ∧ n = news)
    (ret : ∀ (k : Tok) (h' : Heap) (tk' : Nat), Fr h₀ L h' m → News h₀ L h' news → Q (g k) { s with heap := h', toks := tk' }) :
    wpAny (model Challenge.rw_wn0055_01.row.prog w) (topE dp un gd env outer) (call (.ref f) vs kws) Q E s :=
  call_of (B := B) (F := F) (X := X) (N := N) (T := T) (hf := hf) (hk := hk) (hd := hd) (hu := hu) (C := C) fun _ _ _ _ P => by
    obtain ⟨⟨k, rfl⟩, rfl⟩ := P
    exact ret _ _ _
theorem call_ret {v : Value} {P : Led → Prop}
    (B : Below A₀ base outer h₀ := by k_asm) (F : Fr h₀ L s.heap m := by k_asm) (X : (Mine.hk.heap_1 w.params).In h₀ := by k_asm) (N : News h₀ L s.heap news := by k_asm) (T : Top topProg loose mean mg mb h₀ := by k_asm) (hf : env.frame = some L := by first | exact rfl | assumption) (hk : env.scope.kind = .function := by first | exact rfl | assumption) (hd : dp + kd < recursionLimit := by ktr_room) (hu : un + ku < cLine := by ktr_units)
    (C : Ctr w loose mean mg mb kd ku f vs kws news fun r n => r = v ∧ P n)
    (ret : ∀ (n : Led) (h' : Heap) (tk' : Nat), P n → Fr h₀ L h' m → News h₀ L h' n → Q v { s with heap := h', toks := tk' }) :
    wpAny (model Challenge.rw_wn0055_01.row.prog w) (topE dp un gd env outer) (call (.ref f) vs kws) Q E s :=
  call_of (B := B) (F := F) (X := X) (N := N) (T := T) (hf := hf) (hk := hk) (hd := hd) (hu := hu) (C := C) fun _ _ _ _ P => by
    obtain ⟨rfl, P⟩ := P
    exact ret _ _ _ P
theorem call_vret {g : Tok → Value} {P : Led → Prop}
    (B : Below A₀ base outer h₀ := by k_asm) (F : Fr h₀ L s.heap m := by k_asm) (X : (Mine.hk.heap_1 w.params).In h₀ := by k_asm) (N : News h₀ L s.heap news := by k_asm) (T : Top topProg loose mean mg mb h₀ := by k_asm) (hf : env.frame = some L := by first | exact rfl | assumption) (hk : env.scope.kind = .function := by first | exact rfl | assumption) (hd : dp + kd < recursionLimit := by ktr_room) (hu : un + ku < cLine := by ktr_units)
    (C : Ctr w loose mean mg mb kd ku f vs kws news fun r n => (∃ k, r = g k) ∧ P n)
    (ret : ∀ (k : Tok) (n : Led) (h' : Heap) (tk' : Nat), P n → Fr h₀ L h' m → News h₀ L h' n → Q (g k) { s with heap := h', toks := tk' }) :
    wpAny (model Challenge.rw_wn0055_01.row.prog w) (topE dp un gd env outer) (call (.ref f) vs kws) Q E s :=
  call_of (B := B) (F := F) (X := X) (N := N) (T := T) (hf := hf) (hk := hk) (hd := hd) (hu := hu) (C := C) fun _ _ _ _ P => by
    obtain ⟨⟨k, rfl⟩, P⟩ := P
    exact ret _ _ _ _ P
/-- the frame holds: the room that a contract wants -/
theorem room_le {a k n r : Nat} (h : a + n < r) (hk : k ≤ n) : a + k < r := Nat.lt_of_le_of_lt (Nat.add_le_add_left hk a) h
end
theorem fold_m {P : Prop} {h₀ h : Heap} {L : Addr} {m : Str → Option Value} (F : Fr h₀ L h m) (k : let mk := m; Fr h₀ L h mk → P) : P := k F
theorem Small.go {P : Prop} (h : ∀ G : Prop, (P → G) → G) : P := h P id
end
section
section
theorem e0a3  {P0 : Prop} {P1 : Prop} {P2 : Prop} {G : Prop} (h : P0 ∧ P1 ∧ P2) (k : P0 → P1 → P2 → G) : G := by
  obtain ⟨h0, h1, h2⟩ := h
  exact k h0 h1 h2
theorem e0a4  {P0 : Prop} {P1 : Prop} {P2 : Prop} {P3 : Prop} {G : Prop} (h : P0 ∧ P1 ∧ P2 ∧ P3) (k : P0 → P1 → P2 → P3 → G) : G := by
  obtain ⟨h0, h1, h2, h3⟩ := h
  exact k h0 h1 h2 h3
theorem e0a5  {P0 : Prop} {P1 : Prop} {P2 : Prop} {P3 : Prop} {P4 : Prop} {G : Prop} (h : P0 ∧ P1 ∧ P2 ∧ P3 ∧ P4) (k : P0 → P1 → P2 → P3 → P4 → G) : G := by
  obtain ⟨h0, h1, h2, h3, h4⟩ := h
  exact k h0 h1 h2 h3 h4
theorem e0a6  {P0 : Prop} {P1 : Prop} {P2 : Prop} {P3 : Prop} {P4 : Prop} {P5 : Prop} {G : Prop} (h : P0 ∧ P1 ∧ P2 ∧ P3 ∧ P4 ∧ P5) (k : P0 → P1 → P2 → P3 → P4 → P5 → G) : G := by
  obtain ⟨h0, h1, h2, h3, h4, h5⟩ := h
  exact k h0 h1 h2 h3 h4 h5
theorem e0a7  {P0 : Prop} {P1 : Prop} {P2 : Prop} {P3 : Prop} {P4 : Prop} {P5 : Prop} {P6 : Prop} {G : Prop} (h : P0 ∧ P1 ∧ P2 ∧ P3 ∧ P4 ∧ P5 ∧ P6) (k : P0 → P1 → P2 → P3 → P4 → P5 → P6 → G) : G := by
  obtain ⟨h0, h1, h2, h3, h4, h5, h6⟩ := h
  exact k h0 h1 h2 h3 h4 h5 h6
theorem e0a8  {P0 : Prop} {P1 : Prop} {P2 : Prop} {P3 : Prop} {P4 : Prop} {P5 : Prop} {P6 : Prop} {P7 : Prop} {G : Prop} (h : P0 ∧ P1 ∧ P2 ∧ P3 ∧ P4 ∧ P5 ∧ P6 ∧ P7) (k : P0 → P1 → P2 → P3 → P4 → P5 → P6 → P7 → G) : G := by
  obtain ⟨h0, h1, h2, h3, h4, h5, h6, h7⟩ := h
  exact k h0 h1 h2 h3 h4 h5 h6 h7
theorem e1a2 {α0 : Sort _} {P0 : α0 → Prop} {P1 : α0 → Prop} {G : Prop} (h : ∃ x0, P0 x0 ∧ P1 x0) (k : ∀ x0, P0 x0 → P1 x0 → G) : G := by
  obtain ⟨x0, h0, h1⟩ := h
  exact k x0 h0 h1
theorem e1a3 {α0 : Sort _} {P0 : α0 → Prop} {P1 : α0 → Prop} {P2 : α0 → Prop} {G : Prop} (h : ∃ x0, P0 x0 ∧ P1 x0 ∧ P2 x0) (k : ∀ x0, P0 x0 → P1 x0 → P2 x0 → G) : G := by
  obtain ⟨x0, h0, h1, h2⟩ := h
  exact k x0 h0 h1 h2
theorem e1a4 {α0 : Sort _} {P0 : α0 → Prop} {P1 : α0 → Prop} {P2 : α0 → Prop} {P3 : α0 → Prop} {G : Prop} (h : ∃ x0, P0 x0 ∧ P1 x0 ∧ P2 x0 ∧ P3 x0) (k : ∀ x0, P0 x0 → P1 x0 → P2 x0 → P3 x0 → G) : G := by
  obtain ⟨x0, h0, h1, h2, h3⟩ := h
  exact k x0 h0 h1 h2 h3
theorem e1a5 {α0 : Sort _} {P0 : α0 → Prop} {P1 : α0 → Prop} {P2 : α0 → Prop} {P3 : α0 → Prop} {P4 : α0 → Prop} {G : Prop} (h : ∃ x0, P0 x0 ∧ P1 x0 ∧ P2 x0 ∧ P3 x0 ∧ P4 x0) (k : ∀ x0, P0 x0 → P1 x0 → P2 x0 → P3 x0 → P4 x0 → G) : G := by
  obtain ⟨x0, h0, h1, h2, h3, h4⟩ := h
  exact k x0 h0 h1 h2 h3 h4
theorem e1a6 {α0 : Sort _} {P0 : α0 → Prop} {P1 : α0 → Prop} {P2 : α0 → Prop} {P3 : α0 → Prop} {P4 : α0 → Prop} {P5 : α0 → Prop} {G : Prop} (h : ∃ x0, P0 x0 ∧ P1 x0 ∧ P2 x0 ∧ P3 x0 ∧ P4 x0 ∧ P5 x0) (k : ∀ x0, P0 x0 → P1 x0 → P2 x0 → P3 x0 → P4 x0 → P5 x0 → G) : G := by
  obtain ⟨x0, h0, h1, h2, h3, h4, h5⟩ := h
  exact k x0 h0 h1 h2 h3 h4 h5
theorem e1a7 {α0 : Sort _} {P0 : α0 → Prop} {P1 : α0 → Prop} {P2 : α0 → Prop} {P3 : α0 → Prop} {P4 : α0 → Prop} {P5 : α0 → Prop} {P6 : α0 → Prop} {G : Prop} (h : ∃ x0, P0 x0 ∧ P1 x0 ∧ P2 x0 ∧ P3 x0 ∧ P4 x0 ∧ P5 x0 ∧ P6 x0) (k : ∀ x0, P0 x0 → P1 x0 → P2 x0 → P3 x0 → P4 x0 → P5 x0 → P6 x0 → G) : G := by
  obtain ⟨x0, h0, h1, h2, h3, h4, h5, h6⟩ := h
  exact k x0 h0 h1 h2 h3 h4 h5 h6
theorem e1a8 {α0 : Sort _} {P0 : α0 → Prop} {P1 : α0 → Prop} {P2 : α0 → Prop} {P3 : α0 → Prop} {P4 : α0 → Prop} {P5 : α0 → Prop} {P6 : α0 → Prop} {P7 : α0 → Prop} {G : Prop} (h : ∃ x0, P0 x0 ∧ P1 x0 ∧ P2 x0 ∧ P3 x0 ∧ P4 x0 ∧ P5 x0 ∧ P6 x0 ∧ P7 x0) (k : ∀ x0, P0 x0 → P1 x0 → P2 x0 → P3 x0 → P4 x0 → P5 x0 → P6 x0 → P7 x0 → G) : G := by
  obtain ⟨x0, h0, h1, h2, h3, h4, h5, h6, h7⟩ := h
  exact k x0 h0 h1 h2 h3 h4 h5 h6 h7
theorem e2a1 {α0 : Sort _} {α1 : Sort _} {P0 : α0 → α1 → Prop} {G : Prop} (h : ∃ x0, ∃ x1, P0 x0 x1) (k : ∀ x0, ∀ x1, P0 x0 x1 → G) : G := by
  obtain ⟨x0, x1, h0⟩ := h
  exact k x0 x1 h0
theorem e2a2 {α0 : Sort _} {α1 : Sort _} {P0 : α0 → α1 → Prop} {P1 : α0 → α1 → Prop} {G : Prop} (h : ∃ x0, ∃ x1, P0 x0 x1 ∧ P1 x0 x1) (k : ∀ x0, ∀ x1, P0 x0 x1 → P1 x0 x1 → G) : G := by
  obtain ⟨x0, x1, h0, h1⟩ := h
  exact k x0 x1 h0 h1
theorem e2a3 {α0 : Sort _} {α1 : Sort _} {P0 : α0 → α1 → Prop} {P1 : α0 → α1 → Prop} {P2 : α0 → α1 → Prop} {G : Prop} (h : ∃ x0, ∃ x1, P0 x0 x1 ∧ P1 x0 x1 ∧ P2 x0 x1) (k : ∀ x0, ∀ x1, P0 x0 x1 → P1 x0 x1 → P2 x0 x1 → G) : G := by
  obtain ⟨x0, x1, h0, h1, h2⟩ := h
  exact k x0 x1 h0 h1 h2
theorem e2a4 {α0 : Sort _} {α1 : Sort _} {P0 : α0 → α1 → Prop} {P1 : α0 → α1 → Prop} {P2 : α0 → α1 → Prop} {P3 : α0 → α1 → Prop} {G : Prop} (h : ∃ x0, ∃ x1, P0 x0 x1 ∧ P1 x0 x1 ∧ P2 x0 x1 ∧ P3 x0 x1) (k : ∀ x0, ∀ x1, P0 x0 x1 → P1 x0 x1 → P2 x0 x1 → P3 x0 x1 → G) : G := by
  obtain ⟨x0, x1, h0, h1, h2, h3⟩ := h
  exact k x0 x1 h0 h1 h2 h3
theorem e2a5 {α0 : Sort _} {α1 : Sort _} {P0 : α0 → α1 → Prop} {P1 : α0 → α1 → Prop} {P2 : α0 → α1 → Prop} {P3 : α0 → α1 → Prop} {P4 : α0 → α1 → Prop} {G : Prop} (h : ∃ x0, ∃ x1, P0 x0 x1 ∧ P1 x0 x1 ∧ P2 x0 x1 ∧ P3 x0 x1 ∧ P4 x0 x1) (k : ∀ x0, ∀ x1, P0 x0 x1 → P1 x0 x1 → P2 x0 x1 → P3 x0 x1 → P4 x0 x1 → G) : G := by
  obtain ⟨x0, x1, h0, h1, h2, h3, h4⟩ := h
  exact k x0 x1 h0 h1 h2 h3 h4
theorem e2a6 {α0 : Sort _} {α1 : Sort _} {P0 : α0 → α1 → Prop} {P1 : α0 → α1 → Prop} {P2 : α0 → α1 → Prop} {P3 : α0 → α1 → Prop} {P4 : α0 → α1 → Prop} {P5 : α0 → α1 → Prop} {G : Prop} (h : ∃ x0, ∃ x1, P0 x0 x1 ∧ P1 x0 x1 ∧ P2 x0 x1 ∧ P3 x0 x1 ∧ P4 x0 x1 ∧ P5 x0 x1) (k : ∀ x0, ∀ x1, P0 x0 x1 → P1 x0 x1 → P2 x0 x1 → P3 x0 x1 → P4 x0 x1 → P5 x0 x1 → G) : G := by
  obtain ⟨x0, x1, h0, h1, h2, h3, h4, h5⟩ := h
  exact k x0 x1 h0 h1 h2 h3 h4 h5
theorem e2a7 {α0 : Sort _} {α1 : Sort _} {P0 : α0 → α1 → Prop} {P1 : α0 → α1 → Prop} {P2 : α0 → α1 → Prop} {P3 : α0 → α1 → Prop} {P4 : α0 → α1 → Prop} {P5 : α0 → α1 → Prop} {P6 : α0 → α1 → Prop} {G : Prop} (h : ∃ x0, ∃ x1, P0 x0 x1 ∧ P1 x0 x1 ∧ P2 x0 x1 ∧ P3 x0 x1 ∧ P4 x0 x1 ∧ P5 x0 x1 ∧ P6 x0 x1) (k : ∀ x0, ∀ x1, P0 x0 x1 → P1 x0 x1 → P2 x0 x1 → P3 x0 x1 → P4 x0 x1 → P5 x0 x1 → P6 x0 x1 → G) : G := by
  obtain ⟨x0, x1, h0, h1, h2, h3, h4, h5, h6⟩ := h
  exact k x0 x1 h0 h1 h2 h3 h4 h5 h6
theorem e3a1 {α0 : Sort _} {α1 : Sort _} {α2 : Sort _} {P0 : α0 → α1 → α2 → Prop} {G : Prop} (h : ∃ x0, ∃ x1, ∃ x2, P0 x0 x1 x2) (k : ∀ x0, ∀ x1, ∀ x2, P0 x0 x1 x2 → G) : G := by
  obtain ⟨x0, x1, x2, h0⟩ := h
  exact k x0 x1 x2 h0
theorem e3a2 {α0 : Sort _} {α1 : Sort _} {α2 : Sort _} {P0 : α0 → α1 → α2 → Prop} {P1 : α0 → α1 → α2 → Prop} {G : Prop} (h : ∃ x0, ∃ x1, ∃ x2, P0 x0 x1 x2 ∧ P1 x0 x1 x2) (k : ∀ x0, ∀ x1, ∀ x2, P0 x0 x1 x2 → P1 x0 x1 x2 → G) : G := by
  obtain ⟨x0, x1, x2, h0, h1⟩ := h
  exact k x0 x1 x2 h0 h1
theorem e3a3 {α0 : Sort _} {α1 : Sort _} {α2 : Sort _} {P0 : α0 → α1 → α2 → Prop} {P1 : α0 → α1 → α2 → Prop} {P2 : α0 → α1 → α2 → Prop} {G : Prop} (h : ∃ x0, ∃ x1, ∃ x2, P0 x0 x1 x2 ∧ P1 x0 x1 x2 ∧ P2 x0 x1 x2) (k : ∀ x0, ∀ x1, ∀ x2, P0 x0 x1 x2 → P1 x0 x1 x2 → P2 x0 x1 x2 → G) : G := by
  obtain ⟨x0, x1, x2, h0, h1, h2⟩ := h
  exact k x0 x1 x2 h0 h1 h2
theorem e3a4 {α0 : Sort _} {α1 : Sort _} {α2 : Sort _} {P0 : α0 → α1 → α2 → Prop} {P1 : α0 → α1 → α2 → Prop} {P2 : α0 → α1 → α2 → Prop} {P3 : α0 → α1 → α2 → Prop} {G : Prop} (h : ∃ x0, ∃ x1, ∃ x2, P0 x0 x1 x2 ∧ P1 x0 x1 x2 ∧ P2 x0 x1 x2 ∧ P3 x0 x1 x2) (k : ∀ x0, ∀ x1, ∀ x2, P0 x0 x1 x2 → P1 x0 x1 x2 → P2 x0 x1 x2 → P3 x0 x1 x2 → G) : G := by
  obtain ⟨x0, x1, x2, h0, h1, h2, h3⟩ := h
  exact k x0 x1 x2 h0 h1 h2 h3
theorem e3a5 {α0 : Sort _} {α1 : Sort _} {α2 : Sort _} {P0 : α0 → α1 → α2 → Prop} {P1 : α0 → α1 → α2 → Prop} {P2 : α0 → α1 → α2 → Prop} {P3 : α0 → α1 → α2 → Prop} {P4 : α0 → α1 → α2 → Prop} {G : Prop} (h : ∃ x0, ∃ x1, ∃ x2, P0 x0 x1 x2 ∧ P1 x0 x1 x2 ∧ P2 x0 x1 x2 ∧ P3 x0 x1 x2 ∧ P4 x0 x1 x2) (k : ∀ x0, ∀ x1, ∀ x2, P0 x0 x1 x2 → P1 x0 x1 x2 → P2 x0 x1 x2 → P3 x0 x1 x2 → P4 x0 x1 x2 → G) : G := by
  obtain ⟨x0, x1, x2, h0, h1, h2, h3, h4⟩ := h
  exact k x0 x1 x2 h0 h1 h2 h3 h4
theorem e3a6 {α0 : Sort _} {α1 : Sort _} {α2 : Sort _} {P0 : α0 → α1 → α2 → Prop} {P1 : α0 → α1 → α2 → Prop} {P2 : α0 → α1 → α2 → Prop} {P3 : α0 → α1 → α2 → Prop} {P4 : α0 → α1 → α2 → Prop} {P5 : α0 → α1 → α2 → Prop} {G : Prop} (h : ∃ x0, ∃ x1, ∃ x2, P0 x0 x1 x2 ∧ P1 x0 x1 x2 ∧ P2 x0 x1 x2 ∧ P3 x0 x1 x2 ∧ P4 x0 x1 x2 ∧ P5 x0 x1 x2) (k : ∀ x0, ∀ x1, ∀ x2, P0 x0 x1 x2 → P1 x0 x1 x2 → P2 x0 x1 x2 → P3 x0 x1 x2 → P4 x0 x1 x2 → P5 x0 x1 x2 → G) : G := by
  obtain ⟨x0, x1, x2, h0, h1, h2, h3, h4, h5⟩ := h
  exact k x0 x1 x2 h0 h1 h2 h3 h4 h5
theorem e4a1 {α0 : Sort _} {α1 : Sort _} {α2 : Sort _} {α3 : Sort _} {P0 : α0 → α1 → α2 → α3 → Prop} {G : Prop} (h : ∃ x0, ∃ x1, ∃ x2, ∃ x3, P0 x0 x1 x2 x3) (k : ∀ x0, ∀ x1, ∀ x2, ∀ x3, P0 x0 x1 x2 x3 → G) : G := by
  obtain ⟨x0, x1, x2, x3, h0⟩ := h
  exact k x0 x1 x2 x3 h0
theorem e4a2 {α0 : Sort _} {α1 : Sort _} {α2 : Sort _} {α3 : Sort _} {P0 : α0 → α1 → α2 → α3 → Prop} {P1 : α0 → α1 → α2 → α3 → Prop} {G : Prop} (h : ∃ x0, ∃ x1, ∃ x2, ∃ x3, P0 x0 x1 x2 x3 ∧ P1 x0 x1 x2 x3) (k : ∀ x0, ∀ x1, ∀ x2, ∀ x3, P0 x0 x1 x2 x3 → P1 x0 x1 x2 x3 → G) : G := by
  obtain ⟨x0, x1, x2, x3, h0, h1⟩ := h
  exact k x0 x1 x2 x3 h0 h1
theorem e4a3 {α0 : Sort _} {α1 : Sort _} {α2 : Sort _} {α3 : Sort _} {P0 : α0 → α1 → α2 → α3 → Prop} {P1 : α0 → α1 → α2 → α3 → Prop} {P2 : α0 → α1 → α2 → α3 → Prop} {G : Prop} (h : ∃ x0, ∃ x1, ∃ x2, ∃ x3, P0 x0 x1 x2 x3 ∧ P1 x0 x1 x2 x3 ∧ P2 x0 x1 x2 x3) (k : ∀ x0, ∀ x1, ∀ x2, ∀ x3, P0 x0 x1 x2 x3 → P1 x0 x1 x2 x3 → P2 x0 x1 x2 x3 → G) : G := by
  obtain ⟨x0, x1, x2, x3, h0, h1, h2⟩ := h
  exact k x0 x1 x2 x3 h0 h1 h2
theorem e4a4 {α0 : Sort _} {α1 : Sort _} {α2 : Sort _} {α3 : Sort _} {P0 : α0 → α1 → α2 → α3 → Prop} {P1 : α0 → α1 → α2 → α3 → Prop} {P2 : α0 → α1 → α2 → α3 → Prop} {P3 : α0 → α1 → α2 → α3 → Prop} {G : Prop} (h : ∃ x0, ∃ x1, ∃ x2, ∃ x3, P0 x0 x1 x2 x3 ∧ P1 x0 x1 x2 x3 ∧ P2 x0 x1 x2 x3 ∧ P3 x0 x1 x2 x3) (k : ∀ x0, ∀ x1, ∀ x2, ∀ x3, P0 x0 x1 x2 x3 → P1 x0 x1 x2 x3 → P2 x0 x1 x2 x3 → P3 x0 x1 x2 x3 → G) : G := by
  obtain ⟨x0, x1, x2, x3, h0, h1, h2, h3⟩ := h
  exact k x0 x1 x2 x3 h0 h1 h2 h3
theorem e4a5 {α0 : Sort _} {α1 : Sort _} {α2 : Sort _} {α3 : Sort _} {P0 : α0 → α1 → α2 → α3 → Prop} {P1 : α0 → α1 → α2 → α3 → Prop} {P2 : α0 → α1 → α2 → α3 → Prop} {P3 : α0 → α1 → α2 → α3 → Prop} {P4 : α0 → α1 → α2 → α3 → Prop} {G : Prop} (h : ∃ x0, ∃ x1, ∃ x2, ∃ x3, P0 x0 x1 x2 x3 ∧ P1 x0 x1 x2 x3 ∧ P2 x0 x1 x2 x3 ∧ P3 x0 x1 x2 x3 ∧ P4 x0 x1 x2 x3) (k : ∀ x0, ∀ x1, ∀ x2, ∀ x3, P0 x0 x1 x2 x3 → P1 x0 x1 x2 x3 → P2 x0 x1 x2 x3 → P3 x0 x1 x2 x3 → P4 x0 x1 x2 x3 → G) : G := by
  obtain ⟨x0, x1, x2, x3, h0, h1, h2, h3, h4⟩ := h
  exact k x0 x1 x2 x3 h0 h1 h2 h3 h4
theorem e5a1 {α0 : Sort _} {α1 : Sort _} {α2 : Sort _} {α3 : Sort _} {α4 : Sort _} {P0 : α0 → α1 → α2 → α3 → α4 → Prop} {G : Prop} (h : ∃ x0, ∃ x1, ∃ x2, ∃ x3, ∃ x4, P0 x0 x1 x2 x3 x4) (k : ∀ x0, ∀ x1, ∀ x2, ∀ x3, ∀ x4, P0 x0 x1 x2 x3 x4 → G) : G := by
  obtain ⟨x0, x1, x2, x3, x4, h0⟩ := h
  exact k x0 x1 x2 x3 x4 h0
theorem e5a2 {α0 : Sort _} {α1 : Sort _} {α2 : Sort _} {α3 : Sort _} {α4 : Sort _} {P0 : α0 → α1 → α2 → α3 → α4 → Prop} {P1 : α0 → α1 → α2 → α3 → α4 → Prop} {G : Prop} (h : ∃ x0, ∃ x1, ∃ x2, ∃ x3, ∃ x4, P0 x0 x1 x2 x3 x4 ∧ P1 x0 x1 x2 x3 x4) (k : ∀ x0, ∀ x1, ∀ x2, ∀ x3, ∀ x4, P0 x0 x1 x2 x3 x4 → P1 x0 x1 x2 x3 x4 → G) : G := by
  obtain ⟨x0, x1, x2, x3, x4, h0, h1⟩ := h
  exact k x0 x1 x2 x3 x4 h0 h1
theorem e5a3 {α0 : Sort _} {α1 : Sort _} {α2 : Sort _} {α3 : Sort _} {α4 : Sort _} {P0 : α0 → α1 → α2 → α3 → α4 → Prop} {P1 : α0 → α1 → α2 → α3 → α4 → Prop} {P2 : α0 → α1 → α2 → α3 → α4 → Prop} {G : Prop} (h : ∃ x0, ∃ x1, ∃ x2, ∃ x3, ∃ x4, P0 x0 x1 x2 x3 x4 ∧ P1 x0 x1 x2 x3 x4 ∧ P2 x0 x1 x2 x3 x4) (k : ∀ x0, ∀ x1, ∀ x2, ∀ x3, ∀ x4, P0 x0 x1 x2 x3 x4 → P1 x0 x1 x2 x3 x4 → P2 x0 x1 x2 x3 x4 → G) : G := by
  obtain ⟨x0, x1, x2, x3, x4, h0, h1, h2⟩ := h
  exact k x0 x1 x2 x3 x4 h0 h1 h2
theorem e5a4 {α0 : Sort _} {α1 : Sort _} {α2 : Sort _} {α3 : Sort _} {α4 : Sort _} {P0 : α0 → α1 → α2 → α3 → α4 → Prop} {P1 : α0 → α1 → α2 → α3 → α4 → Prop} {P2 : α0 → α1 → α2 → α3 → α4 → Prop} {P3 : α0 → α1 → α2 → α3 → α4 → Prop} {G : Prop} (h : ∃ x0, ∃ x1, ∃ x2, ∃ x3, ∃ x4, P0 x0 x1 x2 x3 x4 ∧ P1 x0 x1 x2 x3 x4 ∧ P2 x0 x1 x2 x3 x4 ∧ P3 x0 x1 x2 x3 x4) (k : ∀ x0, ∀ x1, ∀ x2, ∀ x3, ∀ x4, P0 x0 x1 x2 x3 x4 → P1 x0 x1 x2 x3 x4 → P2 x0 x1 x2 x3 x4 → P3 x0 x1 x2 x3 x4 → G) : G := by
  obtain ⟨x0, x1, x2, x3, x4, h0, h1, h2, h3⟩ := h
  exact k x0 x1 x2 x3 x4 h0 h1 h2 h3
end
end
section
section
variable {prog : Program} {w : World} {A : Around} {E : Value → Shared → Prop} {s : Shared} {env : Env} {h₀ : Heap} {Q : Flow → Shared → Prop}

def ForAt (prog : Program) (w : World) (A : Around) (env : Env) (target : Expr) (body orelse : List Stmt) (Q : Flow → Shared → Prop) (E : Value → Shared → Prop) (it : Value) (s₂ : Shared) : Prop :=
  codeAny (model prog w) A (.forLoop target it body orelse env) (fun r s' => match r with | .ok f => Q f s' | .error e => cameBackBy (model prog w) A env E e s') s₂

theorem For_start {target iter : Expr} {body orelse : List Stmt} {pos : Pos}
    (h : wpAny (model prog w) A (eval iter env) (fun xv s₁ => wpAny (model prog w) A (pyIter xv) (ForAt prog w A env target body orelse Q E) E s₁) E s)
    (hs : ∀ x, foldedSetIterable iter env x = pure x := by intro _; rfl) :
    wpAny (model prog w) A (exec (.For target iter body orelse pos) env) Q E s := wpAny_For h hs

/-- the end of a turn -/
def FEnd (h₀ : Heap) (L : Addr) (s : Shared) (I : Addr) (oI : Obj) (Jn : (Str → Option Value) → Led → Prop) (Q : Flow → Shared → Prop) (f : Flow) (s₃ : Shared) : Prop :=
  match f with
  | .ret v => Q (.ret v) s₃
  | .brk => Q .next s₃
  | _ => ∃ h' tk m₂ news₂, s₃ = { s with heap := h', toks := tk } ∧ Fr h₀ L h' m₂ ∧ News h₀ L h' ((I, oI) :: news₂) ∧ Jn m₂ news₂

theorem news_filter {h h₁ : Heap} {L I : Addr} {oI : Obj} {news : Led} (N : News h₀ L h ((I, oI) :: news)) (hk : ∀ b o, b ∉ [I] → h.get? b = some o → h₁.get? b = some o) : News h₀ L h₁ (news.filter fun p => decide (p.1 ≠ I)) := by
  intro p hp
  obtain ⟨hp, hne⟩ := List.mem_filter.mp hp
  have hne' : p.1 ≠ I := by simpa using hne
  have z := N p (.tail _ hp)
  exact ⟨hk _ _ (by simpa using hne') z.1, z.2⟩

theorem mem_filter_cls {h : Heap} {L I : Addr} {oI : Obj} {news base : Led} (hfr : ∀ q ∈ base, q.1 ≠ I) (N : News h₀ L h ((I, oI) :: news)) {C : String} (hc : oI.cls = .type C) : ∀ p ∈ news, (p.2.cls ≠ .type C ∨ ∃ q ∈ base, q.1 = p.1) → p ∈ news.filter fun p => decide (p.1 ≠ I) := by
  intro p hp hne
  refine List.mem_filter.mpr ⟨hp, ?_⟩
  have : p.1 ≠ I := by
    intro e
    rcases hne with hne | ⟨q, hq, hqe⟩
    case inr => exact hfr q hq (hqe.trans e)
    have z := (N p (.tail _ hp)).1
    have y := (N (I, oI) (.head _)).1
    rw [e, y] at z
    cases z
    exact hne hc
  simpa using this

theorem for_walks {x : Str} {px : Pos} {body orelse : List Stmt} {I : Addr} {fp : List Addr} {n : Nat} {P : Nat → Value → Prop} {St : Nat → Heap → Prop} {C : String} {m : Str → Option Value} {news : Led} (S : Led → Prop) (J : Nat → (Str → Option Value) → Led → Prop)
    (W : Walks prog w A I fp [I] n P St) (hIo : ∀ i h, St i h → ∃ o, h.get? I = some o ∧ o.cls = .type C)
    (hSt : ∀ i h h' o nw, St i h → h.get? I = some o → h'.get? I = some o → (∀ b o, h₀.get? b = some o → h'.get? b = some o) → News h₀ env.locals h' nw → S nw → St i h')
    (hS : ∀ nw nw', S nw → (∀ p ∈ nw, (p.2.cls ≠ .type C ∨ ∃ q ∈ news, q.1 = p.1) → p ∈ nw') → S nw')
    (hJ : ∀ i m nw nw', J i m nw → (∀ p ∈ nw, (p.2.cls ≠ .type C ∨ ∃ q ∈ news, q.1 = p.1) → p ∈ nw') → J i m nw')
    (hx : env.kindOf x = some .local) (hp : (env.scope.kind == .class || (env.scope.kind == .module && env.locals != env.globals)) = false)
    (hst : St 0 s.heap) (F : Fr h₀ env.locals s.heap m) (N : News h₀ env.locals s.heap news) (hIL : env.locals ≠ I) (hI₀ : h₀.get? I = none) (hfp : env.locals ∉ fp)
    (h0 : J 0 m news) (hS0 : S news) (hfr : ∀ q ∈ news, q.1 ≠ I)
    (turn : ∀ i v m₁ news₁ h tk oI, i < n → P i v → oI.cls = .type C → S news₁ → J i m₁ news₁ → Fr h₀ env.locals h (fun y => if y = x then some v else m₁ y) → News h₀ env.locals h ((I, oI) :: news₁) →
      wpAny (model prog w) A (execs body env) (FEnd h₀ env.locals s I oI (fun m₂ news₂ => S news₂ ∧ J (i + 1) m₂ news₂) Q) E { s with heap := h, toks := tk })
    (done : ∀ m₁ news₁ h tk, J n m₁ news₁ → Fr h₀ env.locals h m₁ → News h₀ env.locals h news₁ → wpAny (model prog w) A (execs orelse env) Q E { s with heap := h, toks := tk })
    (hE : PassesOwn (model prog w) A env E) :
    ForAt prog w A env (.Name x px) body orelse Q E (.ref I) s := by
  unfold ForAt
  have hIf : I ∈ fp := W.sub I (List.mem_singleton.mpr rfl)
  have frK : ∀ {h h₁ : Heap} {m : Str → Option Value}, Fr h₀ env.locals h m → (∀ b o, b ∉ [I] → h.get? b = some o → h₁.get? b = some o) → Fr h₀ env.locals h₁ m := fun F hk =>
    ⟨F.ns.at' fun o e => hk _ o (by simpa using hIL) e, fun b o e => hk b o (fun hm => by rw [List.mem_singleton.mp hm, hI₀] at e; cases e) (F.keep b o e), F.above⟩
  first | (refine e0a3 (hIo _ _ hst) ?_; intro oI0 heI0 hcI0) | (refine e1a2 (hIo _ _ hst) ?_; intro oI0 heI0 hcI0) | (refine e2a1 (hIo _ _ hst) ?_; intro oI0 heI0 hcI0) | obtain ⟨oI0, heI0, hcI0⟩ := hIo _ _ hst
  refine codeAny_forLoop
    (fun k s' => ∃ h' tk m' news' i oI, s' = { s with heap := h', toks := tk } ∧ St i h' ∧ Fr h₀ env.locals h' m' ∧ News h₀ env.locals h' ((I, oI) :: news') ∧ oI.cls = .type C ∧ S news' ∧ J i m' news' ∧ i ≤ n ∧ k = n + 1 - i) ?_ (n + 1)
    ⟨s.heap, s.toks, m, news, 0, oI0, rfl, hst, F, ?_, hcI0, hS0, h0, Nat.zero_le _, rfl⟩
  · intro k s' zq1
    (try dsimp only)
    (try k_fold)
    refine Small.go ?_
    intro gSm hSm
    obtain ⟨h', tk, m', news', i, oI, rfl, hst', F', N', hcI, hS', hJ', hi, rfl⟩ := zq1
    refine hSm ?_
    clear hSm gSm
    by_cases hlt : i < n
    · refine W.item i _ _ _ hlt hst' fun v h₁ tk₁ hP hst₁ hk₁ => ?_
      have F₁ := frK F' hk₁
      have N₁ := news_filter N' hk₁
      refine wpAny_assign_Name (wpAny_storeName_local hx F₁.ns (fun h₂ hn₂ hs₂ => ?_) hp)
      have F₂ := F₁.set hn₂ hs₂
      have N₂ := N₁.set hs₂
      have hst₂ : St (i + 1) h₂ := W.frame _ _ _ hst₁ fun b hb o e => (hs₂.2 b fun q => hfp (q ▸ hb)).trans e
      first | (refine e0a3 (hIo _ _ hst₂) ?_; intro oI' heI' hcI') | (refine e1a2 (hIo _ _ hst₂) ?_; intro oI' heI' hcI') | (refine e2a1 (hIo _ _ hst₂) ?_; intro oI' heI' hcI') | obtain ⟨oI', heI', hcI'⟩ := hIo _ _ hst₂
      have N₃ : News h₀ env.locals h₂ ((I, oI') :: news'.filter fun p => decide (p.1 ≠ I)) := fun p hp => by
        rcases List.mem_cons.mp hp with rfl | hp
        · exact ⟨heI', Ne.symm hIL, hI₀⟩
        · exact N₂ p hp
      have hsub := mem_filter_cls hfr N' hcI
      refine wpAny_mono (wpAny_passesOwn hE (turn i v m' _ _ _ oI' hlt hP hcI' (hS _ _ hS' hsub) (hJ _ _ _ _ hJ' hsub) F₂ N₃)) (fun f s₃ h₃ => ?_) fun _ _ e => e
      cases f with
      | ret v => exact h₃
      | brk => exact h₃
      | next =>
        (have zz9 := h₃; clear h₃)
        first | (refine e1a8 (zz9) ?_; intro h₃ tk₃ m₃ news₃ er4 F₃ N₃' hS₃ hJ₃; (try clear zz9); subst er4) | (refine e2a7 (zz9) ?_; intro h₃ tk₃ m₃ news₃ er4 F₃ N₃' hS₃ hJ₃; (try clear zz9); subst er4) | (refine e3a6 (zz9) ?_; intro h₃ tk₃ m₃ news₃ er4 F₃ N₃' hS₃ hJ₃; (try clear zz9); subst er4) | (refine e4a5 (zz9) ?_; intro h₃ tk₃ m₃ news₃ er4 F₃ N₃' hS₃ hJ₃; (try clear zz9); subst er4) | (refine e5a4 (zz9) ?_; intro h₃ tk₃ m₃ news₃ er4 F₃ N₃' hS₃ hJ₃; (try clear zz9); subst er4) | obtain ⟨h₃, tk₃, m₃, news₃, rfl, F₃, N₃', hS₃, hJ₃⟩ := zz9
        exact ⟨n + 1 - (i + 1), by (first | lia | omega), h₃, tk₃, m₃, news₃, i + 1, oI', rfl, hSt _ _ _ _ _ hst₂ heI' (N₃' _ (.head _)).1 F₃.keep (fun p hp => N₃' p (.tail _ hp)) hS₃, F₃, N₃', hcI', hS₃, hJ₃, hlt, rfl⟩
      | cont =>
        (have zz9 := h₃; clear h₃)
        first | (refine e1a8 (zz9) ?_; intro h₃ tk₃ m₃ news₃ er4 F₃ N₃' hS₃ hJ₃; (try clear zz9); subst er4) | (refine e2a7 (zz9) ?_; intro h₃ tk₃ m₃ news₃ er4 F₃ N₃' hS₃ hJ₃; (try clear zz9); subst er4) | (refine e3a6 (zz9) ?_; intro h₃ tk₃ m₃ news₃ er4 F₃ N₃' hS₃ hJ₃; (try clear zz9); subst er4) | (refine e4a5 (zz9) ?_; intro h₃ tk₃ m₃ news₃ er4 F₃ N₃' hS₃ hJ₃; (try clear zz9); subst er4) | (refine e5a4 (zz9) ?_; intro h₃ tk₃ m₃ news₃ er4 F₃ N₃' hS₃ hJ₃; (try clear zz9); subst er4) | obtain ⟨h₃, tk₃, m₃, news₃, rfl, F₃, N₃', hS₃, hJ₃⟩ := zz9
        exact ⟨n + 1 - (i + 1), by (first | lia | omega), h₃, tk₃, m₃, news₃, i + 1, oI', rfl, hSt _ _ _ _ _ hst₂ heI' (N₃' _ (.head _)).1 F₃.keep (fun p hp => N₃' p (.tail _ hp)) hS₃, F₃, N₃', hcI', hS₃, hJ₃, hlt, rfl⟩
    · have hin : i = n := by (first | lia | omega)
      subst hin
      refine W.done _ _ _ hst' fun h₁ tk₁ hk₁ => ?_
      have F₁ := frK F' hk₁
      have N₁ := news_filter N' hk₁
      exact wpAny_passesOwn hE (done m' _ h₁ tk₁ (hJ _ _ _ _ hJ' (mem_filter_cls hfr N' hcI)) F₁ N₁)
  · intro p hp
    rcases List.mem_cons.mp hp with rfl | hp
    · exact ⟨heI0, Ne.symm hIL, hI₀⟩
    · exact N p hp


theorem for_range {x : Str} {px : Pos} {body orelse : List Stmt} {r : Addr} {a b c : Int} {t u v : Tok} {n : Nat} {m : Str → Option Value} {news : Led} (J : Nat → (Str → Option Value) → Led → Prop)
    (hh : A.handled = none) (F : Fr h₀ env.locals s.heap m) (N : News h₀ env.locals s.heap news) (hr : IsRange s.heap r a b c t u v) (hsm : Builtin.Range.small a b c = true) (hn : Builtin.Range.rangeSize a b c = ((n : Nat) : Int))
    (h0 : J 0 m news)
    (hJ : ∀ i m nw nw', J i m nw → (∀ p ∈ nw, (p.2.cls ≠ .type "range_iterator" ∨ ∃ q ∈ news, q.1 = p.1) → p ∈ nw') → J i m nw')
    (turn : ∀ i (t : Tok) m₁ news₁ h tk I oI s', (∃ g, s' = { s with heap := g }) → i < n → oI.cls = .type "range_iterator" → J i m₁ news₁ → Fr h₀ env.locals h (fun y => if y = x then some (.int (a + i * c) t) else m₁ y) → News h₀ env.locals h ((I, oI) :: news₁) →
      wpAny (model prog w) A (execs body env) (FEnd h₀ env.locals s' I oI (fun m₂ news₂ => True ∧ J (i + 1) m₂ news₂) Q) E { s with heap := h, toks := tk })
    (done : ∀ m₁ news₁ h tk, J n m₁ news₁ → Fr h₀ env.locals h m₁ → News h₀ env.locals h news₁ → wpAny (model prog w) A (execs orelse env) Q E { s with heap := h, toks := tk })
    (hx : env.kindOf x = some .local) (hp : (env.scope.kind == .class || (env.scope.kind == .module && env.locals != env.globals)) = false)
    (hE : PassesOwn (model prog w) A env E) :
    wpAny (model prog w) A (pyIter (.ref r)) (ForAt prog w A env (.Name x px) body orelse Q E) E s := by
  refine wpAny_pyIter_range hr hsm ?_
  have W := Walks.range (prog := prog) (w := w) hh s.heap.objs.size a c n
  refine for_walks (C := "range_iterator") (m := m) (news := news) (fun _ => True) J W (fun i h st => ⟨_, st, rfl⟩) (fun i h h' o nw st e e' k N S => ?_) (fun _ _ _ _ => trivial) hJ hx hp ?_ (F.push _) (fun p hp => ⟨Heap.get?_push_of_some _ (N p hp).1, (N p hp).2⟩) (Nat.ne_of_lt F.ns.lt) (next_is_new F) ?_ h0 trivial (fun q hq => Nat.ne_of_lt (Heap.lt_size (N q hq).1)) ?_ ?_ hE
  · have st' : h.get? s.heap.objs.size = some _ := st
    show h'.get? s.heap.objs.size = some _
    rw [e', ← e]; exact st'
  · show IsRangeIter _ _ _ _ _
    rw [hn]
    simpa using Heap.get?_push_size _ rfl
  · intro hm
    exact absurd F.ns.lt ((List.mem_singleton.mp hm) ▸ Nat.lt_irrefl _)
  · intro i v m₁ news₁ h tk oI hi hP hc _ hJ' F₁ N₁
    obtain ⟨t', rfl⟩ := hP
    exact turn i t' m₁ news₁ h tk _ oI _ ⟨_, rfl⟩ hi hc hJ' F₁ N₁
  · intro m₁ news₁ h tk hJ' F₁ N₁
    exact done m₁ news₁ h tk hJ' F₁ N₁
end
end
section
section
variable {prog : Program} {w : World} {A : Around} {E : Value → Shared → Prop} {s : Shared} {env : Env} {h₀ : Heap} {Q : Flow → Shared → Prop}

theorem for_list2 {x : Str} {px : Pos} {body orelse : List Stmt} {l : Addr} {vs : List Value} {nl : Nat} {m : Str → Option Value} {news : Led} (J : Nat → (Str → Option Value) → Led → Prop)
    (hh : A.handled = none) (F : Fr h₀ env.locals s.heap m) (N : News h₀ env.locals s.heap news) (hl : (l, listOf vs.toArray nl) ∈ news)
    (h0 : J 0 m news)
    (hJ : ∀ i m nw nw', J i m nw → (∀ p ∈ nw, (p.2.cls ≠ .type "list_iterator" ∨ ∃ q ∈ news, q.1 = p.1) → p ∈ nw') → J i m nw')
    (turn : ∀ i v m₁ news₁ h tk I oI s', (∃ g, s' = { s with heap := g }) → vs[i]? = some v → oI.cls = .type "list_iterator" → (l, listOf vs.toArray nl) ∈ news₁ → J i m₁ news₁ → Fr h₀ env.locals h (fun y => if y = x then some v else m₁ y) → News h₀ env.locals h ((I, oI) :: news₁) → (∀ q ∈ news, q.1 ≠ I) →
      wpAny (model prog w) A (execs body env) (FEnd h₀ env.locals s' I oI (fun m₂ news₂ => (l, listOf vs.toArray nl) ∈ news₂ ∧ J (i + 1) m₂ news₂) Q) E { s with heap := h, toks := tk })
    (done : ∀ m₁ news₁ h tk, J vs.length m₁ news₁ → Fr h₀ env.locals h m₁ → News h₀ env.locals h news₁ → wpAny (model prog w) A (execs orelse env) Q E { s with heap := h, toks := tk })
    (hx : env.kindOf x = some .local) (hp : (env.scope.kind == .class || (env.scope.kind == .module && env.locals != env.globals)) = false)
    (hE : PassesOwn (model prog w) A env E) :
    wpAny (model prog w) A (pyIter (.ref l)) (ForAt prog w A env (.Name x px) body orelse Q E) E s := by
  have hls : s.heap.IsList l vs.toArray := News.isList N hl
  first | (refine e0a3 (id hls) ?_; intro ol hol _) | (refine e1a2 (id hls) ?_; intro ol hol _) | (refine e2a1 (id hls) ?_; intro ol hol _) | obtain ⟨ol, hol, _⟩ := id hls
  have hlt : l < s.heap.objs.size := Heap.lt_size hol
  have hne : l ≠ s.heap.objs.size := Nat.ne_of_lt hlt
  refine wpAny_pyIter_list hls ?_
  have W := Walks.list (prog := prog) (w := w) hh s.heap.objs.size l hne vs.toArray
  rw [show vs.toArray.size = vs.length from List.size_toArray] at W
  refine for_walks (C := "list_iterator") (m := m) (news := news) (fun nw => (l, listOf vs.toArray nl) ∈ nw) J W (fun i h st => ?_) (fun i h h' o nw st e e' k N S => ?_) (fun nw nw' hS hs => hs _ hS (.inl (by simp))) hJ hx hp ⟨⟨_, Heap.get?_push_size _ rfl, rfl, rfl⟩, hls.push _⟩ (F.push _) (fun p hp => ⟨Heap.get?_push_of_some _ (N p hp).1, (N p hp).2⟩) (Nat.ne_of_lt F.ns.lt) (next_is_new F) ?_ h0 hl (fun q hq => Nat.ne_of_lt (Heap.lt_size (N q hq).1)) ?_ ?_ hE
  · obtain ⟨o, ho, hc, _⟩ := st.1
    exact ⟨o, ho, hc⟩
  · obtain ⟨⟨o', q, r⟩, _⟩ := st
    rw [e] at q; cases q
    exact ⟨⟨o, e', r⟩, News.isList N S⟩
  · intro hm
    rcases List.mem_cons.mp hm with e | hm
    · exact absurd F.ns.lt (e ▸ Nat.lt_irrefl _)
    · have := List.mem_singleton.mp hm
      have z := (N _ hl).2.1
      exact z this.symm
  · intro i v m₁ news₁ h tk oI hi hP hc hS hJ' F₁ N₁
    exact turn i v m₁ news₁ h tk _ oI _ ⟨_, rfl⟩ (by simpa using hP) hc hS hJ' F₁ N₁ (fun q hq => Nat.ne_of_lt (Heap.lt_size (N q hq).1))
  · intro m₁ news₁ h tk hJ' F₁ N₁
    exact done m₁ news₁ h tk hJ' F₁ N₁

theorem for_range2 {x : Str} {px : Pos} {body orelse : List Stmt} {r : Addr} {a b c : Int} {t u v : Tok} {n : Nat} {m : Str → Option Value} {news : Led} (J : Nat → (Str → Option Value) → Led → Prop)
    (hh : A.handled = none) (F : Fr h₀ env.locals s.heap m) (N : News h₀ env.locals s.heap news) (hr : IsRange s.heap r a b c t u v) (hsm : Builtin.Range.small a b c = true) (hn : Builtin.Range.rangeSize a b c = ((n : Nat) : Int))
    (h0 : J 0 m news)
    (hJ : ∀ i m nw nw', J i m nw → (∀ p ∈ nw, (p.2.cls ≠ .type "range_iterator" ∨ ∃ q ∈ news, q.1 = p.1) → p ∈ nw') → J i m nw')
    (turn : ∀ i (t : Tok) m₁ news₁ h tk I oI s', (∃ g, s' = { s with heap := g }) → i < n → oI.cls = .type "range_iterator" → J i m₁ news₁ → Fr h₀ env.locals h (fun y => if y = x then some (.int (a + i * c) t) else m₁ y) → News h₀ env.locals h ((I, oI) :: news₁) → (∀ q ∈ news, q.1 ≠ I) →
      wpAny (model prog w) A (execs body env) (FEnd h₀ env.locals s' I oI (fun m₂ news₂ => True ∧ J (i + 1) m₂ news₂) Q) E { s with heap := h, toks := tk })
    (done : ∀ m₁ news₁ h tk, J n m₁ news₁ → Fr h₀ env.locals h m₁ → News h₀ env.locals h news₁ → wpAny (model prog w) A (execs orelse env) Q E { s with heap := h, toks := tk })
    (hx : env.kindOf x = some .local) (hp : (env.scope.kind == .class || (env.scope.kind == .module && env.locals != env.globals)) = false)
    (hE : PassesOwn (model prog w) A env E) :
    wpAny (model prog w) A (pyIter (.ref r)) (ForAt prog w A env (.Name x px) body orelse Q E) E s := by
  refine wpAny_pyIter_range hr hsm ?_
  have W := Walks.range (prog := prog) (w := w) hh s.heap.objs.size a c n
  refine for_walks (C := "range_iterator") (m := m) (news := news) (fun _ => True) J W (fun i h st => ⟨_, st, rfl⟩) (fun i h h' o nw st e e' k N S => ?_) (fun _ _ _ _ => trivial) hJ hx hp ?_ (F.push _) (fun p hp => ⟨Heap.get?_push_of_some _ (N p hp).1, (N p hp).2⟩) (Nat.ne_of_lt F.ns.lt) (next_is_new F) ?_ h0 trivial (fun q hq => Nat.ne_of_lt (Heap.lt_size (N q hq).1)) ?_ ?_ hE
  · have st' : h.get? s.heap.objs.size = some _ := st
    show h'.get? s.heap.objs.size = some _
    rw [e', ← e]; exact st'
  · show IsRangeIter _ _ _ _ _
    rw [hn]
    simpa using Heap.get?_push_size _ rfl
  · intro hm
    exact absurd F.ns.lt ((List.mem_singleton.mp hm) ▸ Nat.lt_irrefl _)
  · intro i v m₁ news₁ h tk oI hi hP hc _ hJ' F₁ N₁
    obtain ⟨t', rfl⟩ := hP
    exact turn i t' m₁ news₁ h tk _ oI _ ⟨_, rfl⟩ hi hc hJ' F₁ N₁ (fun q hq => Nat.ne_of_lt (Heap.lt_size (N q hq).1))
  · intro m₁ news₁ h tk hJ' F₁ N₁
    exact done m₁ news₁ h tk hJ' F₁ N₁
/-- a loop over a list, into a tuple of names -/
theorem for_listT {elts : List Expr} {kt : Nat} {tp : Pos} {body orelse : List Stmt} {l : Addr} {vs : List Value} {nl : Nat} {m : Str → Option Value} {news : Led} (J : Nat → (Str → Option Value) → Led → Prop)
    (hh : A.handled = none) (F : Fr h₀ env.locals s.heap m) (N : News h₀ env.locals s.heap news) (hl : (l, listOf vs.toArray nl) ∈ news) (hrefs : ∀ v ∈ vs, ∃ T, v = .ref T)
    (h0 : J 0 m news)
    (hJ : ∀ i m nw nw', J i m nw → (∀ p ∈ nw, (p.2.cls ≠ .type "list_iterator" ∨ ∃ q ∈ news, q.1 = p.1) → p ∈ nw') → J i m nw')
    (turn : ∀ i v m₁ news₁ h tk I oI s' (E' : Value → Shared → Prop), (∃ g, s' = { s with heap := g }) → vs[i]? = some v → oI.cls = .type "list_iterator" → (l, listOf vs.toArray nl) ∈ news₁ → J i m₁ news₁ → Fr h₀ env.locals h m₁ → News h₀ env.locals h ((I, oI) :: news₁) → (∀ q ∈ news, q.1 ≠ I) →
      PassesOwn (model prog w) A env E' →
      wpAny (model prog w) A (assign (.Tuple elts kt tp) env v) (fun _ s₂ => wpAny (model prog w) A (execs body env) (FEnd h₀ env.locals s' I oI (fun m₂ news₂ => (l, listOf vs.toArray nl) ∈ news₂ ∧ J (i + 1) m₂ news₂) Q) E' s₂) E' { s with heap := h, toks := tk })
    (done : ∀ m₁ news₁ h tk, J vs.length m₁ news₁ → Fr h₀ env.locals h m₁ → News h₀ env.locals h news₁ → wpAny (model prog w) A (execs orelse env) Q E { s with heap := h, toks := tk })
    (hE : PassesOwn (model prog w) A env E) :
    wpAny (model prog w) A (pyIter (.ref l)) (ForAt prog w A env (.Tuple elts kt tp) body orelse Q E) E s := by
  have hls : s.heap.IsList l vs.toArray := News.isList N hl
  first | (refine e0a3 (id hls) ?_; intro ol hol _) | (refine e1a2 (id hls) ?_; intro ol hol _) | (refine e2a1 (id hls) ?_; intro ol hol _) | obtain ⟨ol, hol, _⟩ := id hls
  have hlt : l < s.heap.objs.size := Heap.lt_size hol
  have hne : l ≠ s.heap.objs.size := Nat.ne_of_lt hlt
  refine wpAny_pyIter_list hls ?_
  unfold ForAt
  have W := Walks.list (prog := prog) (w := w) hh s.heap.objs.size l hne vs.toArray
  rw [show vs.toArray.size = vs.length from List.size_toArray] at W
  generalize hI : s.heap.objs.size = I at W hne ⊢
  have hIL : env.locals ≠ I := by rw [← hI]; exact Nat.ne_of_lt F.ns.lt
  have hI₀ : h₀.get? I = none := by rw [← hI]; exact next_is_new F
  have hfr : ∀ q ∈ news, q.1 ≠ I := fun q hq => by rw [← hI]; exact Nat.ne_of_lt (Heap.lt_size (N q hq).1)
  have frK : ∀ {h h₁ : Heap} {m : Str → Option Value}, Fr h₀ env.locals h m → (∀ b o, b ∉ [I] → h.get? b = some o → h₁.get? b = some o) → Fr h₀ env.locals h₁ m := fun F hk =>
    ⟨F.ns.at' fun o e => hk _ o (by simpa using hIL) e, fun b o e => hk b o (fun hm => by rw [List.mem_singleton.mp hm, hI₀] at e; cases e) (F.keep b o e), F.above⟩
  refine codeAny_forLoop_any
    (fun k s' => ∃ h' tk m' news' i oI, s' = { s with heap := h', toks := tk } ∧ (h'.IsListIter I l i ∧ h'.IsList l vs.toArray) ∧ Fr h₀ env.locals h' m' ∧ News h₀ env.locals h' ((I, oI) :: news') ∧ oI.cls = .type "list_iterator" ∧ (l, listOf vs.toArray nl) ∈ news' ∧ J i m' news' ∧ i ≤ vs.length ∧ k = vs.length + 1 - i) ?_ (vs.length + 1)
    ⟨_, s.toks, m, news, 0, { cls := .type "list_iterator", data := .fields #[.ref l, .int 0 0] }, rfl, ⟨⟨_, by rw [← hI]; exact Heap.get?_push_size _ rfl, rfl, rfl⟩, hls.push _⟩, F.push _, ?_, rfl, hl, h0, Nat.zero_le _, rfl⟩
  · intro k s' zq1
    (try dsimp only)
    (try k_fold)
    refine Small.go ?_
    intro gSm hSm
    obtain ⟨h', tk, m', news', i, oI, rfl, hst', F', N', hcI, hS', hJ', hi, rfl⟩ := zq1
    refine hSm ?_
    clear hSm gSm
    by_cases hlt : i < vs.length
    · refine W.item i _ _ _ hlt hst' fun v h₁ tk₁ hP hst₁ hk₁ => ?_
      have F₁ := frK F' hk₁
      have N₁ := news_filter N' hk₁
      first | (refine e0a4 (id hst₁.1) ?_; intro oI' heI' hcI' hdI') | (refine e1a3 (id hst₁.1) ?_; intro oI' heI' hcI' hdI') | (refine e2a2 (id hst₁.1) ?_; intro oI' heI' hcI' hdI') | (refine e3a1 (id hst₁.1) ?_; intro oI' heI' hcI' hdI') | obtain ⟨oI', heI', hcI', hdI'⟩ := id hst₁.1
      have hsub := mem_filter_cls hfr N' hcI
      have N₃ : News h₀ env.locals h₁ ((I, oI') :: news'.filter fun p => decide (p.1 ≠ I)) := fun p hp => by
        rcases List.mem_cons.mp hp with rfl | hp
        · exact ⟨heI', Ne.symm hIL, hI₀⟩
        · exact N₁ p hp
      have hPv : vs[i]? = some v := by simpa using hP
      obtain ⟨T, rfl⟩ := hrefs v (List.mem_of_getElem? hPv)
      refine wpAny_letOwnedTupleGo_listiter (l := l) (i := i + 1) hst₁.1 ?_
      refine wpAny_mono (wpAny_passesOwn hE (turn i (.ref T) m' _ _ tk₁ I oI' _ E ⟨h', rfl⟩ hPv hcI' (hsub _ hS' (.inr ⟨_, hl, rfl⟩)) (hJ _ _ _ _ hJ' hsub) F₁ N₃ hfr hE)) (fun _ s₂ h₂ => ?_) fun _ _ e => e
      refine wpAny_mono (wpAny_passesOwn hE h₂) (fun f s₃ h₃ => ?_) fun _ _ e => e
      cases f with
      | ret v => exact h₃
      | brk => exact h₃
      | next =>
        (have zz9 := h₃; clear h₃)
        first | (refine e1a8 (zz9) ?_; intro h₃ tk₃ m₃ news₃ er4 F₃ N₃' hS₃ hJ₃; (try clear zz9); subst er4) | (refine e2a7 (zz9) ?_; intro h₃ tk₃ m₃ news₃ er4 F₃ N₃' hS₃ hJ₃; (try clear zz9); subst er4) | (refine e3a6 (zz9) ?_; intro h₃ tk₃ m₃ news₃ er4 F₃ N₃' hS₃ hJ₃; (try clear zz9); subst er4) | (refine e4a5 (zz9) ?_; intro h₃ tk₃ m₃ news₃ er4 F₃ N₃' hS₃ hJ₃; (try clear zz9); subst er4) | (refine e5a4 (zz9) ?_; intro h₃ tk₃ m₃ news₃ er4 F₃ N₃' hS₃ hJ₃; (try clear zz9); subst er4) | obtain ⟨h₃, tk₃, m₃, news₃, rfl, F₃, N₃', hS₃, hJ₃⟩ := zz9
        exact ⟨vs.length + 1 - (i + 1), by (first | lia | omega), h₃, tk₃, m₃, news₃, i + 1, oI', rfl, ⟨⟨oI', (N₃' _ (.head _)).1, hcI', hdI'⟩, News.isList N₃' (.tail _ hS₃)⟩, F₃, N₃', hcI', hS₃, hJ₃, hlt, rfl⟩
      | cont =>
        (have zz9 := h₃; clear h₃)
        first | (refine e1a8 (zz9) ?_; intro h₃ tk₃ m₃ news₃ er4 F₃ N₃' hS₃ hJ₃; (try clear zz9); subst er4) | (refine e2a7 (zz9) ?_; intro h₃ tk₃ m₃ news₃ er4 F₃ N₃' hS₃ hJ₃; (try clear zz9); subst er4) | (refine e3a6 (zz9) ?_; intro h₃ tk₃ m₃ news₃ er4 F₃ N₃' hS₃ hJ₃; (try clear zz9); subst er4) | (refine e4a5 (zz9) ?_; intro h₃ tk₃ m₃ news₃ er4 F₃ N₃' hS₃ hJ₃; (try clear zz9); subst er4) | (refine e5a4 (zz9) ?_; intro h₃ tk₃ m₃ news₃ er4 F₃ N₃' hS₃ hJ₃; (try clear zz9); subst er4) | obtain ⟨h₃, tk₃, m₃, news₃, rfl, F₃, N₃', hS₃, hJ₃⟩ := zz9
        exact ⟨vs.length + 1 - (i + 1), by (first | lia | omega), h₃, tk₃, m₃, news₃, i + 1, oI', rfl, ⟨⟨oI', (N₃' _ (.head _)).1, hcI', hdI'⟩, News.isList N₃' (.tail _ hS₃)⟩, F₃, N₃', hcI', hS₃, hJ₃, hlt, rfl⟩
    · have hin : i = vs.length := by (first | lia | omega)
      subst hin
      refine W.done _ _ _ hst' fun h₁ tk₁ hk₁ => ?_
      exact wpAny_passesOwn hE (done m' _ h₁ tk₁ (hJ _ _ _ _ hJ' (mem_filter_cls hfr N' hcI)) (frK F' hk₁) (news_filter N' hk₁))
  · intro p hp
    rcases List.mem_cons.mp hp with rfl | hp
    · exact ⟨by rw [← hI]; exact Heap.get?_push_size _ rfl, Ne.symm hIL, hI₀⟩
    · exact ⟨Heap.get?_push_of_some _ (N p hp).1, (N p hp).2⟩
end
end
section
section
variable {prog : Program} {w : World} {A : Around} {E : Value → Shared → Prop} {s : Shared} {env : Env} {h₀ : Heap} {L : Addr} {m : Str → Option Value}

def Kept (news : Led) (p : Addr × Obj) : Prop := (p.2.cls = .type "tuple" ∧ ∃ xs n, p.2.data = .seq xs n) ∨ ∃ q ∈ news, q.1 = p.1

/-- a turn's start -/
def TurnAt (prog : Program) (w : World) (A : Around) (cenv : Env) (target : Expr) (it : Value) (K1 K0 : Shared → Prop) (E : Value → Shared → Prop) (s : Shared) : Prop :=
  wpAny (model prog w) A (pyNext it) (fun r s₁ => match r with
    | none => K0 s₁
    | some v => wpAny (model prog w) A (letOwnedTupleGo target it v) (fun _ s₂ => wpAny (model prog w) A (assign target cenv v) (fun _ s₃ => K1 s₃) E s₂) E s₁) E s

structure Steps (prog : Program) (w : World) (A : Around) (cenv : Env) (target : Expr) (it : Value) (wr : List Addr) (n : Nat) (P : Nat → (Str → Option Value) → (Str → Option Value) → Prop) (St : Nat → Heap → Prop) : Prop where
  item : ∀ (i : Nat) (s : Shared) (m : Str → Option Value) (K1 K0 : Shared → Prop) (E : Value → Shared → Prop), i < n → St i s.heap → s.heap.Ns cenv.locals m →
    (∀ h' tk m', P i m m' → St (i + 1) h' → h'.Ns cenv.locals m' → (∀ b o, b ∉ wr → b ≠ cenv.locals → s.heap.get? b = some o → h'.get? b = some o) → K1 { s with heap := h', toks := tk }) → TurnAt prog w A cenv target it K1 K0 E s
  done : ∀ (s : Shared) (K1 K0 : Shared → Prop) (E : Value → Shared → Prop), St n s.heap → (∀ h' tk, (∀ b o, b ∉ wr → s.heap.get? b = some o → h'.get? b = some o) → K0 { s with heap := h', toks := tk }) → TurnAt prog w A cenv target it K1 K0 E s
  self : ∀ (i : Nat) (s : Shared) (Q : Value → Shared → Prop) (E : Value → Shared → Prop), St i s.heap → Q it s → wpAny (model prog w) A (pyIter it) Q E s

def TurnEnd (h₀ : Heap) (L : Addr) (m : Str → Option Value) (s : Shared) (iso : Led) (C D : Addr) (S : Led → Prop) (J : List Value → (Str → Option Value) → Led → Prop) (s₃ : Shared) : Prop :=
  ∃ h' tk' oC' m₃ ys' nw', s₃ = { s with heap := h', toks := tk' } ∧ Fr h₀ L h' m ∧ News h₀ L h' nw' ∧ (∀ q ∈ iso, q ∈ nw') ∧ (C, oC') ∈ nw' ∧ LCg.NsObj oC' m₃ ∧ (D, LCg.lst ys') ∈ nw' ∧ S nw' ∧ J ys' m₃ nw'

theorem objs_at {h : Heap} {C : Value → Prop} {wr : List Addr} (hb : ∀ b ∈ wr, ∃ o, h.get? b = some o ∧ C o.cls) : ∃ iso : Led, iso.map (·.1) = wr ∧ (∀ q ∈ iso, h.get? q.1 = some q.2) ∧ ∀ q ∈ iso, C q.2.cls := by
  induction wr with
  | nil => exact ⟨[], rfl, fun q hq => (List.not_mem_nil hq).elim, fun q hq => (List.not_mem_nil hq).elim⟩
  | cons b r ih =>
    first | (refine e0a3 (hb b (.head _)) ?_; intro o ho hc) | (refine e1a2 (hb b (.head _)) ?_; intro o ho hc) | (refine e2a1 (hb b (.head _)) ?_; intro o ho hc) | obtain ⟨o, ho, hc⟩ := hb b (.head _)
    first | (refine e0a4 (ih fun b' hb' => hb b' (.tail _ hb')) ?_; intro iso h1 h2 h3) | (refine e1a3 (ih fun b' hb' => hb b' (.tail _ hb')) ?_; intro iso h1 h2 h3) | (refine e2a2 (ih fun b' hb' => hb b' (.tail _ hb')) ?_; intro iso h1 h2 h3) | (refine e3a1 (ih fun b' hb' => hb b' (.tail _ hb')) ?_; intro iso h1 h2 h3) | obtain ⟨iso, h1, h2, h3⟩ := ih fun b' hb' => hb b' (.tail _ hb')
    refine ⟨(b, o) :: iso, by rw [List.map_cons, h1], ?_, ?_⟩
    · intro q hq
      rcases List.mem_cons.mp hq with hq | hq
      · rw [hq]; exact ho
      · exact h2 q hq
    · intro q hq
      rcases List.mem_cons.mp hq with hq | hq
      · rw [hq]; exact hc
      · exact h3 q hq

theorem comp_loop {elt : Expr} {gens : List Comprehension} {scope : Scope} {pos : Pos} {k : Nat} {target : Expr} {it : Value} {C D : Addr} {cenv : Env} {p : Pos} {rest : Sem Unit} {wr : List Addr} {n : Nat} {P : Nat → (Str → Option Value) → (Str → Option Value) → Prop} {St : Nat → Heap → Prop}
    {R : Result → Shared → Prop} {news : Led} {m₀ : Str → Option Value} {ys₀ : List Value} {oC₀ : Obj} (S : Led → Prop) (J : Nat → List Value → (Str → Option Value) → Led → Prop)
    (hC : cenv.locals = C)
    (heq : compTurn (.ListComp elt gens scope pos) k it (.ref D) cenv = (standAt p >>= fun _ => pyNext it >>= fun r => match r with
      | none => pure (.done .next)
      | some v => letOwnedTupleGo target it v >>= fun _ => assign target cenv v >>= fun _ => rest >>= fun _ => again (.compLoop (.ListComp elt gens scope pos) k it (.ref D) cenv)))
    (W : Steps prog w A cenv target it wr n P St)
    (hIo : ∀ i h, St i h → ∀ b ∈ wr, ∃ o, h.get? b = some o ∧ o.cls ≠ .type "tuple")
    (hSt : ∀ i h h' nw, St i h → (∀ b ∈ wr, ∀ o, h.get? b = some o → h'.get? b = some o) → (∀ b o, h₀.get? b = some o → h'.get? b = some o) → News h₀ L h' nw → S nw → St i h')
    (hS : ∀ nw nw', S nw → (∀ p ∈ nw, Kept news p → p ∈ nw') → S nw')
    (hJ : ∀ i ys m₁ nw nw', J i ys m₁ nw → (∀ p ∈ nw, Kept news p → p ∈ nw') → J i ys m₁ nw')
    (hst : St 0 s.heap) (F : Fr h₀ L s.heap m) (N : News h₀ L s.heap ((C, oC₀) :: (D, LCg.lst ys₀) :: news)) (hns : LCg.NsObj oC₀ m₀) (h0 : J 0 ys₀ m₀ news) (hS0 : S news)
    (hoff : ∀ q ∈ news, q.1 ∉ wr ∧ q.1 ≠ C ∧ q.1 ≠ D) (hCw : C ∉ wr) (hDw : D ∉ wr) (hCD : C ≠ D) (hLw : L ∉ wr) (hw0 : ∀ b ∈ wr, h₀.get? b = none)
    (turn : ∀ i iso oC m₁ m₂ ys nw h tk (E' : Value → Shared → Prop), i < n → J i ys m₁ nw → P i m₁ m₂ → LCg.NsObj oC m₂ → iso.map (·.1) = wr → (∀ q ∈ iso, q.2.cls ≠ .type "tuple") → S nw → Fr h₀ L h m → News h₀ L h (iso ++ (C, oC) :: (D, LCg.lst ys) :: nw) →
      (∀ p ∈ nw, p.1 ∉ wr ∧ p.1 ≠ C ∧ p.1 ≠ D) → wpAny (model prog w) A rest (fun _ s₃ => TurnEnd h₀ L m s iso C D S (J (i + 1)) s₃) E' { s with heap := h, toks := tk })
    (done : ∀ oC m₁ ys nw h tk, J n ys m₁ nw → S nw → LCg.NsObj oC m₁ → Fr h₀ L h m → News h₀ L h ((C, oC) :: (D, LCg.lst ys) :: nw) → (∀ p ∈ nw, p.1 ≠ C ∧ p.1 ≠ D) → R (.ok .next) { s with heap := h, toks := tk }) :
    codeAny (model prog w) A (.compLoop (.ListComp elt gens scope pos) k it (.ref D) cenv) R s := by
  have hLC : L ≠ C := Ne.symm (N _ (.head _)).2.1
  have hLD : L ≠ D := Ne.symm (N _ (.tail _ (.head _))).2.1
  have hC₀ : h₀.get? C = none := (N _ (.head _)).2.2
  have hD₀ : h₀.get? D = none := (N _ (.tail _ (.head _))).2.2
  -- a change at wr and C alone
  refine codeAny_loop rfl
    (fun j s' => ∃ h' tk oC m₁ ys nw i, s' = { s with heap := h', toks := tk } ∧ St i h' ∧ Fr h₀ L h' m ∧ News h₀ L h' ((C, oC) :: (D, LCg.lst ys) :: nw) ∧ (∀ p ∈ nw, p.1 ∉ wr ∧ p.1 ≠ C ∧ p.1 ≠ D) ∧ LCg.NsObj oC m₁ ∧ S nw ∧ J i ys m₁ nw ∧ i ≤ n ∧ j = n + 1 - i) ?_ (n + 1)
    ⟨s.heap, s.toks, oC₀, m₀, ys₀, news, 0, rfl, hst, F, N, hoff, hns, hS0, h0, Nat.zero_le _, rfl⟩
  intro j s' zq1
  (try dsimp only)
  (try k_fold)
  refine Small.go ?_
  intro gSm hSm
  obtain ⟨h', tk, oC, m₁, ys, nw, i, rfl, hst', F', N', off', hns', hS', hJ', hi, rfl⟩ := zq1
  refine hSm ?_
  clear hSm gSm
  show wpAny _ A ((compTurn (.ListComp elt gens scope pos) k it (.ref D) cenv).onRaise (fun x => do noteFrame x cenv; theTreesLotGoes x)) _ _ _
  refine wpAny_noted ?_
  rw [heq]
  have hN1 : h'.Ns cenv.locals m₁ := by rw [hC]; exact hns'.ns (N' _ (.head _)).1
  by_cases hlt : i < n
  · refine wpAny_bind (wpAny_standAt (wpAny_bind ?_))
    refine wpAny_mono (W.item i _ m₁
      (fun s₃ => wpAny (model prog w) A rest (fun _ s₄ => ∃ mm, mm < n + 1 - i ∧ ∃ h' tk oC m₁ ys nw i, s₄ = { s with heap := h', toks := tk } ∧ St i h' ∧ Fr h₀ L h' m ∧ News h₀ L h' ((C, oC) :: (D, LCg.lst ys) :: nw) ∧ (∀ p ∈ nw, p.1 ∉ wr ∧ p.1 ≠ C ∧ p.1 ≠ D) ∧ LCg.NsObj oC m₁ ∧ S nw ∧ J i ys m₁ nw ∧ i ≤ n ∧ mm = n + 1 - i) (notedBy (model prog w) A cenv fun e s' => R (.error e) s') s₃)
      (fun _ => False) _ hlt hst' hN1 fun h₂ tk₂ m₂ hP hst₂ hn₂ hk₂ => ?_) (fun r s₁ h₁ => ?_) fun _ _ e => e
    case refine_2 =>
      cases r with
      | none => exact h₁.elim
      | some v =>
        refine wpAny_bind (wpAny_mono h₁ (fun _ s₂ h₂ => ?_) fun _ _ e => e)
        refine wpAny_bind (wpAny_mono h₂ (fun _ s₃ h₃ => ?_) fun _ _ e => e)
        exact wpAny_bind (wpAny_mono h₃ (fun _ s₄ h₄ => wpAny_pure ⟨rfl, h₄⟩) fun _ _ e => e)
    case refine_1 =>
      rw [hC] at hn₂ hk₂
      first | (refine e0a3 (LCg.ns_obj hn₂) ?_; intro oC₂ heC₂ hoC₂) | (refine e1a2 (LCg.ns_obj hn₂) ?_; intro oC₂ heC₂ hoC₂) | (refine e2a1 (LCg.ns_obj hn₂) ?_; intro oC₂ heC₂ hoC₂) | obtain ⟨oC₂, heC₂, hoC₂⟩ := LCg.ns_obj hn₂
      first | (refine e0a4 (objs_at (C := fun c => c ≠ .type "tuple") (hIo _ _ hst₂)) ?_; intro iso hiso hisoH hisoC) | (refine e1a3 (objs_at (C := fun c => c ≠ .type "tuple") (hIo _ _ hst₂)) ?_; intro iso hiso hisoH hisoC) | (refine e2a2 (objs_at (C := fun c => c ≠ .type "tuple") (hIo _ _ hst₂)) ?_; intro iso hiso hisoH hisoC) | (refine e3a1 (objs_at (C := fun c => c ≠ .type "tuple") (hIo _ _ hst₂)) ?_; intro iso hiso hisoH hisoC) | obtain ⟨iso, hiso, hisoH, hisoC⟩ := objs_at (C := fun c => c ≠ .type "tuple") (hIo _ _ hst₂)
      have F₂ : Fr h₀ L h₂ m := ⟨F'.ns.at' fun o e => hk₂ _ o hLw hLC e, fun b o e => hk₂ b o (fun hm => by rw [hw0 b hm] at e; cases e) (fun hm => by rw [hm, hC₀] at e; cases e) (F'.keep b o e), F'.above⟩
      have N₂ : News h₀ L h₂ (iso ++ (C, oC₂) :: (D, LCg.lst ys) :: nw) := by
        intro q hq
        rcases List.mem_append.mp hq with hq | hq
        · have hqw : q.1 ∈ wr := by rw [← hiso]; exact List.mem_map_of_mem hq
          exact ⟨hisoH q hq, fun e => hLw (e ▸ hqw), hw0 _ hqw⟩
        rcases List.mem_cons.mp hq with rfl | hq
        · exact ⟨heC₂, Ne.symm hLC, hC₀⟩
        rcases List.mem_cons.mp hq with rfl | hq
        · exact ⟨hk₂ _ _ hDw (Ne.symm hCD) (N' _ (.tail _ (.head _))).1, Ne.symm hLD, hD₀⟩
        · have z := N' q (.tail _ (.tail _ hq))
          have y := off' q hq
          exact ⟨hk₂ _ _ y.1 y.2.1 z.1, z.2⟩
      have cut : ∀ {h₃ : Heap} {oC' : Obj} {m₃ : Str → Option Value} {ys' : List Value} {nw' : Led}, News h₀ L h₃ nw' → (∀ q ∈ iso, q ∈ nw') → (C, oC') ∈ nw' → LCg.NsObj oC' m₃ → (D, LCg.lst ys') ∈ nw' →
          ∃ nw'' : Led, News h₀ L h₃ ((C, oC') :: (D, LCg.lst ys') :: nw'') ∧ (∀ p ∈ nw'', p.1 ∉ wr ∧ p.1 ≠ C ∧ p.1 ≠ D) ∧ (∀ p ∈ nw', Kept news p → p ∈ nw'') := by
        intro h₃ oC' m₃ ys' nw' N₃ his hCm hns₃ hDm
        refine ⟨nw'.filter (fun p => decide (p.1 ∉ wr ∧ p.1 ≠ C ∧ p.1 ≠ D)), ?_, ?_, ?_⟩
        · intro q hq
          rcases List.mem_cons.mp hq with rfl | hq
          · exact N₃ _ hCm
          rcases List.mem_cons.mp hq with rfl | hq
          · exact N₃ _ hDm
          · exact N₃ _ (List.mem_filter.mp hq).1
        · intro q hq; simpa using (List.mem_filter.mp hq).2
        · intro q hq hkp
          refine List.mem_filter.mpr ⟨hq, ?_⟩
          rcases hkp with ⟨hc, xs, nn, hdat⟩ | ⟨q', hq', e⟩
          · have same : ∀ {o' : Obj}, h₃.get? q.1 = some o' → o' = q.2 := fun e => by rw [(N₃ q hq).1] at e; exact (Option.some.inj e).symm
            have h1 : q.1 ∉ wr := by
              intro hm
              rw [← hiso] at hm
              first | (refine e0a3 (List.mem_map.mp hm) ?_; intro q' hq' e) | (refine e1a2 (List.mem_map.mp hm) ?_; intro q' hq' e) | (refine e2a1 (List.mem_map.mp hm) ?_; intro q' hq' e) | obtain ⟨q', hq', e⟩ := List.mem_map.mp hm
              have z := (N₃ q' (his q' hq')).1
              rw [show q'.1 = q.1 from e] at z
              exact hisoC q' hq' (by rw [same z]; exact hc)
            have h2 : q.1 ≠ C := by
              intro e
              have z := (N₃ _ hCm).1
              dsimp only at z
              rw [← e] at z
              first | (refine e0a4 (hns₃) ?_; intro es ep hd _; (try clear hns₃)) | (refine e1a3 (hns₃) ?_; intro es ep hd _; (try clear hns₃)) | (refine e2a2 (hns₃) ?_; intro es ep hd _; (try clear hns₃)) | (refine e3a1 (hns₃) ?_; intro es ep hd _; (try clear hns₃)) | obtain ⟨es, ep, hd, _⟩ := hns₃
              rw [same z, hdat] at hd
              cases hd
            have h3 : q.1 ≠ D := by
              intro e
              have z := (N₃ _ hDm).1
              dsimp only at z
              rw [← e] at z
              have := congrArg Obj.cls (same z)
              rw [hc] at this
              exact absurd this (by simp [LCg.lst])
            simp [h1, h2, h3]
          · have := hoff q' hq'
            rw [e] at this
            simpa using this
      refine wpAny_mono (turn i iso oC₂ m₁ m₂ ys nw h₂ tk₂ _ hlt hJ' hP hoC₂ hiso hisoC hS' F₂ N₂ off') (fun _ s₄ h₄ => ?_) fun _ _ e => e
      refine Small.go ?_
      intro gSm hSm
      obtain ⟨h₄, tk₄, oC₄, m₄, ys₄, nw₄, rfl, F₄, N₄, hi₄, hC₄, hns₄, hD₄, hS₄, hJ₄⟩ := h₄
      refine hSm ?_
      clear hSm gSm
      first | (refine e0a4 (cut N₄ hi₄ hC₄ hns₄ hD₄) ?_; intro nw₅ N₅ off₅ sub₅) | (refine e1a3 (cut N₄ hi₄ hC₄ hns₄ hD₄) ?_; intro nw₅ N₅ off₅ sub₅) | (refine e2a2 (cut N₄ hi₄ hC₄ hns₄ hD₄) ?_; intro nw₅ N₅ off₅ sub₅) | (refine e3a1 (cut N₄ hi₄ hC₄ hns₄ hD₄) ?_; intro nw₅ N₅ off₅ sub₅) | obtain ⟨nw₅, N₅, off₅, sub₅⟩ := cut N₄ hi₄ hC₄ hns₄ hD₄
      have hSt₄ : St (i + 1) h₄ := hSt _ _ _ nw₄ hst₂ (fun b hb o e => by
        rw [← hiso] at hb
        first | (refine e0a3 (List.mem_map.mp hb) ?_; intro q hq er2; subst er2) | (refine e1a2 (List.mem_map.mp hb) ?_; intro q hq er2; subst er2) | (refine e2a1 (List.mem_map.mp hb) ?_; intro q hq er2; subst er2) | obtain ⟨q, hq, rfl⟩ := List.mem_map.mp hb
        have z := hisoH q hq
        rw [z] at e
        cases e
        exact (N₄ q (hi₄ q hq)).1) F₄.keep N₄ hS₄
      exact ⟨n + 1 - (i + 1), by (first | lia | omega), h₄, tk₄, oC₄, m₄, ys₄, nw₅, i + 1, rfl, hSt₄, F₄, N₅, off₅, hns₄, hS _ _ hS₄ sub₅, hJ _ _ _ _ _ hJ₄ sub₅, hlt, rfl⟩
  · obtain rfl : i = n := by (first | lia | omega)
    refine wpAny_bind (wpAny_standAt (wpAny_bind ?_))
    refine wpAny_mono (W.done _ (fun _ => False) (fun s₁ => R (.ok .next) s₁) _ hst' fun h₂ tk₂ hk₂ => ?_) (fun r s₁ h₁ => ?_) fun _ _ e => e
    case refine_2 =>
      cases r with
      | none => exact wpAny_pure h₁
      | some v =>
        refine wpAny_bind (wpAny_mono h₁ (fun _ s₂ h₂ => ?_) fun _ _ e => e)
        exact wpAny_bind (wpAny_mono h₂ (fun _ s₃ h₃ => h₃.elim) fun _ _ e => e)
    case refine_1 =>
      have F₂ : Fr h₀ L h₂ m := ⟨F'.ns.at' fun o e => hk₂ _ o hLw e, fun b o e => hk₂ b o (fun hm => by rw [hw0 b hm] at e; cases e) (F'.keep b o e), F'.above⟩
      refine done oC m₁ ys nw h₂ tk₂ hJ' hS' hns' F₂ (fun q hq => ?_) fun p hp => (off' p hp).2
      have z := N' q hq
      refine ⟨hk₂ _ _ ?_ z.1, z.2⟩
      rcases List.mem_cons.mp hq with rfl | hq
      · exact hCw
      rcases List.mem_cons.mp hq with rfl | hq
      · exact hDw
      · exact (off' q hq).1
end
end
section
section
variable {prog : Program} {w : World} {A : Around} {E : Value → Shared → Prop} {s : Shared} {env : Env} {h₀ : Heap} {L : Addr} {m : Str → Option Value}

def CompAt (prog : Program) (w : World) (A : Around) (env : Env) (elt : Expr) (gens : List Comprehension) (scope : Scope) (cl : List (Str × Addr)) (pos : Pos) (RR : Value → Addr → Result → Shared → Prop) (E : Value → Shared → Prop) (it : Value) (s₂ : Shared) : Prop :=
  wpAny (model prog w) A (newList []) (fun acc s₃ => wpAny (model prog w) A (newFunctionEnv scope env.globals cl [] env.qual none .none (some env)) (fun cenv s₄ =>
    codeAny (model prog w) A (.compStart (.ListComp elt gens scope pos) 0 it acc { cenv with scope := relabel scope env }) (RR acc cenv.locals) s₄) E s₃) E s₂

theorem comp_E {elt target iter : Expr} {ifs : List Expr} {more : List Comprehension} {scope : Scope} {cl : List (Str × Addr)} {pos : Pos} {Q : Value → Shared → Prop}
    (hclos : closureFor scope env = pure cl) (hkind : scope.kind = .function) (hnames : ∀ y ∈ scope.names, y.2 = .local → scope.names.lookup y.1 = some .local)
    (h : wpAny (model prog w) A (eval iter env) (fun xv s₁ => wpAny (model prog w) A (pyIter xv) (CompAt prog w A env elt (⟨target, iter, ifs, 0⟩ :: more) scope cl pos (compPost (model prog w) A E none Q) E) E s₁) E s)
    (hs : ∀ x, foldedSetIterable iter env x = pure x := by intro _; rfl) :
    wpAny (model prog w) A (eval (.ListComp elt (⟨target, iter, ifs, 0⟩ :: more) scope pos) env) Q E s := by
  rw [eval_ListComp]
  exact wpAny_comprehension_free (use := none) rfl hs hclos hkind hnames h

theorem comp_A {elt target iter : Expr} {ifs : List Expr} {more : List Comprehension} {scope : Scope} {cl : List (Str × Addr)} {pos spos : Pos} {y : Str} {py : Pos} {Q : Flow → Shared → Prop}
    (hsw : swapsWith (.ListComp elt (⟨target, iter, ifs, 0⟩ :: more) scope pos) (some (.Name y py)) spos.line env = pure true)
    (hclos : closureFor scope env = pure cl) (hkind : scope.kind = .function) (hnames : ∀ y ∈ scope.names, y.2 = .local → scope.names.lookup y.1 = some .local)
    (h : wpAny (model prog w) A (eval iter env) (fun xv s₁ => wpAny (model prog w) A (pyIter xv) (CompAt prog w A env elt (⟨target, iter, ifs, 0⟩ :: more) scope cl pos (compPost (model prog w) A E (some (assign (.Name y py) env)) (fun _ s' => Q .next s')) E) E s₁) E s)
    (hs : ∀ x, foldedSetIterable iter env x = pure x := by intro _; rfl) :
    wpAny (model prog w) A (exec (.Assign [.Name y py] (.ListComp elt (⟨target, iter, ifs, 0⟩ :: more) scope pos) spos) env) Q E s := by
  rw [exec_Assign_Name_used _ _ _ _ hsw]
  refine wpAny_bind (wpAny_standAt (wpAny_bind ?_))
  show wpAny _ A (do let _ ← comprehension (.ListComp elt (⟨target, iter, ifs, 0⟩ :: more) scope pos) scope env _ (newList []) false (eval iter env) (some (assign (.Name y py) env))) _ _ s
  exact wpAny_bind (wpAny_mono (wpAny_comprehension_free (use := some (assign (.Name y py) env)) (Q := fun _ s' => Q .next s') rfl hs hclos hkind hnames h) (fun _ s' hq => wpAny_pure (wpAny_pure hq)) fun _ _ e => e)

/-- the end, for a value -/
theorem post_E {C D : Addr} {ys : List Value} {oC : Obj} {m₁ : Str → Option Value} {nw : Led} {Q : Value → Shared → Prop} {h : Heap} {tk : Nat}
    (F : Fr h₀ L h m) (N : News h₀ L h ((C, oC) :: (D, LCg.lst ys) :: nw)) (hns : LCg.NsObj oC m₁) (off : ∀ p ∈ nw, p.1 ≠ C ∧ p.1 ≠ D) (hCD : C ≠ D)
    (hQ : ∀ h', Fr h₀ L h' m → News h₀ L h' ((D, LCg.lst ys) :: nw) → Q (.ref D) { s with heap := h', toks := tk }) :
    compPost (model prog w) A E none Q (.ref D) C (.ok .next) { s with heap := h, toks := tk } := by
  have hC₀ : h₀.get? C = none := (N _ (.head _)).2.2
  refine ⟨m₁, hns.ns (N _ (.head _)).1, fun h' hs' => hQ h' (F.change hs' (N _ (.head _)).2.1 hC₀) fun p hp => ?_⟩
  have z := N p (.tail _ hp)
  refine ⟨hs'.extBut _ _ ?_ z.1, z.2⟩
  rcases List.mem_cons.mp hp with rfl | hp
  · exact Ne.symm hCD
  · exact (off p hp).1

/-- the end, where it is bound to a name -/
theorem post_A {C D : Addr} {ys : List Value} {oC : Obj} {m₁ : Str → Option Value} {nw : Led} {Q : Flow → Shared → Prop} {h : Heap} {tk : Nat} {y : Str} {py : Pos}
    (hL : env.locals = L) (hy : env.kindOf y = some .local) (hp : (env.scope.kind == .class || (env.scope.kind == .module && env.locals != env.globals)) = false)
    (F : Fr h₀ L h m) (N : News h₀ L h ((C, oC) :: (D, LCg.lst ys) :: nw)) (hns : LCg.NsObj oC m₁) (off : ∀ p ∈ nw, p.1 ≠ C ∧ p.1 ≠ D) (hCD : C ≠ D)
    (hQ : ∀ h', Fr h₀ L h' (fun z => if z = y then some (.ref D) else m z) → News h₀ L h' ((D, LCg.lst ys) :: nw) → Q .next { s with heap := h', toks := tk + 1 }) :
    compPost (model prog w) A E (some (assign (.Name y py) env)) (fun _ s' => Q .next s') (.ref D) C (.ok .next) { s with heap := h, toks := tk } := by
  subst hL
  have hC₀ : h₀.get? C = none := (N _ (.head _)).2.2
  show wpAny _ A (assign (.Name y py) env (.ref D)) _ _ _
  refine wpAny_assign_Name (wpAny_storeName_local hy F.ns (fun h₂ hn₂ hs₂ => ?_) hp)
  have F₂ := F.set hn₂ hs₂
  have N₂ : News h₀ env.locals h₂ ((C, oC) :: (D, LCg.lst ys) :: nw) := News.set N hs₂
  refine ⟨m₁, hns.ns (N₂ _ (.head _)).1, fun h' hs' => hQ h' (F₂.change hs' (N _ (.head _)).2.1 hC₀) fun p hp => ?_⟩
  have z := N₂ p (.tail _ hp)
  refine ⟨hs'.extBut _ _ ?_ z.1, z.2⟩
  rcases List.mem_cons.mp hp with rfl | hp
  · exact Ne.symm hCD
  · exact (off p hp).1

theorem fresh_of {h : Heap} (F : Fr h₀ L h m) {a : Addr} (ha : h.objs.size ≤ a) : h₀.get? a = none := by
  cases e : h₀.get? a with
  | none => rfl
  | some o' =>
    have := Heap.lt_size (F.keep a o' e)
    exact absurd this (Nat.not_lt.mpr ha)

theorem comp_open {elt target iter : Expr} {ifs : List Expr} {more : List Comprehension} {scope : Scope} {cl : List (Str × Addr)} {pos : Pos} {RR : Value → Addr → Result → Shared → Prop} {it : Value} {news : Led}
    (F : Fr h₀ L s.heap m) (N : News h₀ L s.heap news) (hcell : ∀ y ∈ scope.names, y.2 ≠ .cell) (hkind : scope.kind = .function)
    (h : ∀ C D h₁ tk oC, Fr h₀ L h₁ m → News h₀ L h₁ ((C, oC) :: (D, LCg.lst []) :: news) → LCg.NsObj oC (fun _ => none) → (∀ p ∈ news, p.1 ≠ C ∧ p.1 ≠ D) → C ≠ D → (∀ b o, s.heap.get? b = some o → h₁.get? b = some o) → (∀ b o, s.heap.get? b = some o → b ≠ C ∧ b ≠ D) →
      (∀ (Q : Value → Shared → Prop) (E : Value → Shared → Prop), Q it { s with heap := h₁, toks := tk } → wpAny (model prog w) A (pyIter it) Q E { s with heap := h₁, toks := tk }) ∧
      codeAny (model prog w) A (.compLoop (.ListComp elt (⟨target, iter, ifs, 0⟩ :: more) scope pos) 0 it (.ref D) (compEnvC scope cl C env)) (RR (.ref D) C) { s with heap := h₁, toks := tk }) :
    CompAt prog w A env elt (⟨target, iter, ifs, 0⟩ :: more) scope cl pos RR E it s := by
  unfold CompAt
  refine wpAny_newObj_type (wpAny_newFunctionEnv hcell (by intro y hy; simp at hy) (fun h₁ hns₁ hsb₁ => ?_) hkind)
  dsimp only at hns₁ hsb₁ ⊢
  generalize hH2 : s.heap.push { cls := .type "list", dict := none, data := .seq ([] : List Value).toArray } = H2 at hns₁ hsb₁ ⊢
  have hC : H2.objs.size = s.heap.objs.size + 1 := by rw [← hH2, Heap.size_push]
  have hDC : s.heap.objs.size ≠ H2.objs.size := by rw [hC]; exact Nat.ne_of_lt (Nat.lt_succ_self _)
  have below : ∀ b, b < s.heap.objs.size → b ≠ H2.objs.size ∧ b ≠ s.heap.objs.size := fun b hb => ⟨by rw [hC]; exact Nat.ne_of_lt (Nat.lt_succ_of_lt hb), Nat.ne_of_lt hb⟩
  have old : ∀ b o, s.heap.get? b = some o → h₁.get? b = some o := fun b o e => hsb₁.extBut b o (below b (Heap.lt_size e)).1 (Heap.get?_push_of_some _ (hH2 ▸ Heap.get?_push_of_some _ e))
  have hacc : h₁.get? s.heap.objs.size = some (LCg.lst []) := hsb₁.extBut _ _ hDC (Heap.get?_push_of_some _ (hH2 ▸ Heap.get?_push_size _ rfl))
  have hD₀ : h₀.get? s.heap.objs.size = none := fresh_of F (Nat.le_refl _)
  have hC₀ : h₀.get? H2.objs.size = none := fresh_of F (by rw [hC]; exact Nat.le_succ _)
  have hLlt : L < s.heap.objs.size := F.ns.lt
  have hDL : s.heap.objs.size ≠ L := Ne.symm (below L hLlt).2
  have hCL : H2.objs.size ≠ L := Ne.symm (below L hLlt).1
  first | (refine e0a3 (LCg.ns_obj hns₁) ?_; intro oC heC hoC) | (refine e1a2 (LCg.ns_obj hns₁) ?_; intro oC heC hoC) | (refine e2a1 (LCg.ns_obj hns₁) ?_; intro oC heC hoC) | obtain ⟨oC, heC, hoC⟩ := LCg.ns_obj hns₁
  have N₁ : News h₀ L h₁ ((H2.objs.size, oC) :: (s.heap.objs.size, LCg.lst []) :: news) := by
    intro p hp
    rcases List.mem_cons.mp hp with rfl | hp
    · exact ⟨heC, hCL, hC₀⟩
    rcases List.mem_cons.mp hp with rfl | hp
    · exact ⟨hacc, hDL, hD₀⟩
    · exact ⟨old _ _ (N p hp).1, (N p hp).2⟩
  obtain ⟨hself, hloop⟩ := h H2.objs.size s.heap.objs.size h₁ _ oC (F.keeps old) N₁ hoC (fun p hp => below _ (Heap.lt_size (N p hp).1)) (Ne.symm hDC) old (fun b o e => below b (Heap.lt_size e))
  exact codeAny_compStart_list hloop (hself _ _ hloop)

theorem kept_ne {h : Heap} {D : Addr} {ys : List Value} {nw news : Led} (N : News h₀ L h nw) (hD : (D, LCg.lst ys) ∈ nw) (hoff : ∀ q ∈ news, q.1 ≠ D) {p : Addr × Obj} (hp : p ∈ nw) (hk : Kept news p) : p.1 ≠ D := by
  rcases hk with ⟨hc, _⟩ | ⟨q, hq, e⟩
  · intro e
    have z := (N _ hp).1
    have y := (N _ hD).1
    dsimp only at y
    rw [e, y] at z
    have := Option.some.inj z
    rw [← this] at hc
    simp at hc
  · rw [← e]; exact hoff q hq

/-- what stands at a name's turn -/
theorem emit_rest {elt : Expr} {cenv : Env} {D C : Addr} {iso news : Led} {ys : List Value} {m₂ : Str → Option Value} {oC : Obj} {S : Led → Prop} {J : List Value → (Str → Option Value) → Led → Prop} {h : Heap} {tk : Nat}
    (hD : ∀ q ∈ iso, q.1 ≠ D) (hCD : C ≠ D) (hz : ys.length ≤ 1000) (hoff : ∀ q ∈ news, q.1 ≠ D) (hSD : ∀ n n', S n → (∀ p ∈ n, Kept news p → p ∈ n') → S n') (hJD : ∀ y m n n', J y m n → (∀ p ∈ n, Kept news p → p ∈ n') → J y m n')
    (hx : wpAny (model prog w) A (eval elt cenv) (fun y s₃ => ∃ h' tk' nw', s₃ = { s with heap := h', toks := tk' } ∧ Fr h₀ L h' m ∧ News h₀ L h' nw' ∧ (∀ q ∈ iso, q ∈ nw') ∧ (C, oC) ∈ nw' ∧ LCg.NsObj oC m₂ ∧ (D, LCg.lst ys) ∈ nw' ∧ S nw' ∧ J (ys ++ [y]) m₂ nw') E { s with heap := h, toks := tk }) :
    wpAny (model prog w) A (eval elt cenv >>= fun x => call (.builtin "list.append") [.ref D, x] >>= fun _ => pure PUnit.unit) (fun _ s₃ => TurnEnd h₀ L m s iso C D S J s₃) E { s with heap := h, toks := tk } := by
  refine wpAny_bind (wpAny_mono hx (fun y s₃ h₃ => ?_) fun _ _ e => e)
  refine Small.go ?_
  intro gSm hSm
  obtain ⟨h', tk', nw', rfl, F', N', his, hC', hns, hD', hS', hJ'⟩ := h₃
  refine hSm ?_
  clear hSm gSm
  first | (refine e0a5 (pull N' hD') ?_; intro nw₁ N₁ off₁ sub₁ _) | (refine e1a4 (pull N' hD') ?_; intro nw₁ N₁ off₁ sub₁ _) | (refine e2a3 (pull N' hD') ?_; intro nw₁ N₁ off₁ sub₁ _) | (refine e3a2 (pull N' hD') ?_; intro nw₁ N₁ off₁ sub₁ _) | (refine e4a1 (pull N' hD') ?_; intro nw₁ N₁ off₁ sub₁ _) | obtain ⟨nw₁, N₁, off₁, sub₁, _⟩ := pull N' hD'
  refine wpAny_bind ?_
  have eL : ∀ zs : List Value, LCg.lst zs = listOf zs.toArray zs.length := fun zs => rfl
  rw [eL] at N₁
  refine append_L (vs := ys) (n := ys.length) (news' := (D, listOf (ys ++ [y]).toArray (ys.length + 1)) :: nw₁) F' N₁ hz (.head off₁) fun h₂ F₂ N₂ => ?_
  refine wpAny_pure ⟨h₂, tk', oC, m₂, ys ++ [y], _, rfl, F₂, N₂, fun q hq => .tail _ (sub₁ q (his q hq) (hD q hq)), .tail _ (sub₁ _ hC' hCD), hns, ?_, ?_, ?_⟩
  · show (D, LCg.lst (ys ++ [y])) ∈ _
    have : LCg.lst (ys ++ [y]) = listOf (ys ++ [y]).toArray (ys.length + 1) := by simp [LCg.lst]
    rw [this]; exact .head _
  · exact hSD _ _ hS' fun p hp hk => .tail _ (sub₁ p hp (kept_ne N' hD' hoff hp hk))
  · exact hJD _ _ _ _ hJ' fun p hp hk => .tail _ (sub₁ p hp (kept_ne N' hD' hoff hp hk))

def ElEnd (h₀ : Heap) (L : Addr) (m : Str → Option Value) (s : Shared) (I : Addr) (oI : Obj) (C : Addr) (oC : Obj) (D : Addr) (oD : Obj) (J : Value → Led → Prop) (y : Value) (s₃ : Shared) : Prop :=
  ∃ h' tk' nw', s₃ = { s with heap := h', toks := tk' } ∧ Fr h₀ L h' m ∧ News h₀ L h' nw' ∧ (I, oI) ∈ nw' ∧ (C, oC) ∈ nw' ∧ (D, oD) ∈ nw' ∧ J y nw'

theorem name_steps {cenv : Env} {x : Str} {px : Pos} {I : Addr} {fp : List Addr} {n : Nat} {P : Nat → Value → Prop} {St : Nat → Heap → Prop} (W : Walks prog w A I fp [I] n P St) (hx : cenv.kindOf x = some .local)
    (hp : (cenv.scope.kind == .class || (cenv.scope.kind == .module && cenv.locals != cenv.globals)) = false) (hCI : cenv.locals ≠ I) (hfp : cenv.locals ∉ fp) :
    Steps prog w A cenv (.Name x px) (.ref I) [I] n (fun i m₁ m₂ => ∃ v, P i v ∧ m₂ = fun z => if z = x then some v else m₁ z) St where
  item := fun i s m K1 K0 E hi hst hns hK => by
    refine W.item i _ _ _ hi hst fun v h₁ tk₁ hP hst₁ hk₁ => ?_
    have e0 : letOwnedTupleGo (.Name x px) (.ref I) v = pure () := rfl
    refine wpAny_of_eq e0 ?_
    refine wpAny_assign_Name (wpAny_storeName_local hx (hns.at' fun o e => hk₁ _ o (by simpa using hCI) e) (fun h₂ hn₂ hs₂ => ?_) hp)
    refine hK h₂ _ _ ⟨v, hP, rfl⟩ (W.frame _ _ _ hst₁ fun b hb o e => hs₂.extBut b o (fun q => hfp (q ▸ hb)) e) hn₂ fun b o hb hC e => hs₂.extBut b o hC (hk₁ b o hb e)
  done := fun s K1 K0 E hst hK => W.done _ _ _ hst fun h' tk hk => hK h' tk hk
  self := fun i s Q E hst hQ => W.self i _ _ _ hst hQ

theorem comp_name {elt iter : Expr} {x : Str} {px : Pos} {scope : Scope} {cl : List (Str × Addr)} {pos : Pos} {RR : Value → Addr → Result → Shared → Prop} {I : Addr} {fp : List Addr} {n : Nat} {P : Nat → Value → Prop} {St : Nat → Heap → Prop} {news : Led} (S : Led → Prop) (J : Nat → List Value → Led → Prop)
    (hcell : ∀ y ∈ scope.names, y.2 ≠ .cell) (hkind : scope.kind = .function) (hx : scope.names.lookup x = some .local)
    (W : Walks prog w A I fp [I] n P St) (hn : n ≤ 1000) (hfp : ∀ b ∈ fp, ∃ o, s.heap.get? b = some o)
    (hIo : ∀ i h, St i h → ∃ o, h.get? I = some o ∧ o.cls ≠ .type "tuple")
    (hSt : ∀ i h h' o nw, St i h → h.get? I = some o → h'.get? I = some o → (∀ b o, h₀.get? b = some o → h'.get? b = some o) → News h₀ L h' nw → S nw → St i h')
    (hS : ∀ nw nw', S nw → (∀ p ∈ nw, Kept news p → p ∈ nw') → S nw')
    (hJ : ∀ i ys nw nw', J i ys nw → (∀ p ∈ nw, Kept news p → p ∈ nw') → J i ys nw')
    (hst : St 0 s.heap) (F : Fr h₀ L s.heap m) (N : News h₀ L s.heap news) (hLI : L ≠ I) (hI₀ : h₀.get? I = none) (hoff : ∀ q ∈ news, q.1 ≠ I) (h0 : J 0 [] news) (hS0 : S news)
    (turn : ∀ i v oI C oC D m₂ ys nw h tk (E' : Value → Shared → Prop) s', (∃ g tk, s' = { s with heap := g, toks := tk }) → i < n → P i v → ys.length = i → oI.cls ≠ .type "tuple" → LCg.NsObj oC m₂ → m₂ x = some v → S nw → J i ys nw → Fr h₀ L h m → News h₀ L h ((I, oI) :: (C, oC) :: (D, LCg.lst ys) :: nw) → LCg.Off3 I C D nw → ((@Ne Nat I C) ∧ (@Ne Nat I D) ∧ (@Ne Nat C D)) → (∀ q ∈ news, q.1 ≠ I ∧ q.1 ≠ C ∧ q.1 ≠ D) →
      wpAny (model prog w) A (eval elt (compEnvC scope cl C env)) (ElEnd h₀ L m s' I oI C oC D (LCg.lst ys) (fun y nw' => S nw' ∧ J (i + 1) (ys ++ [y]) nw')) E' { s' with heap := h, toks := tk })
    (done : ∀ C D oC m₁ ys nw h tk, ys.length = n → J n ys nw → S nw → LCg.NsObj oC m₁ → Fr h₀ L h m → News h₀ L h ((C, oC) :: (D, LCg.lst ys) :: nw) → (∀ p ∈ nw, p.1 ≠ C ∧ p.1 ≠ D) → C ≠ D → (∀ q ∈ news, q.1 ≠ C ∧ q.1 ≠ D) → RR (.ref D) C (.ok .next) { s with heap := h, toks := tk }) :
    CompAt prog w A env elt [⟨.Name x px, iter, [], 0⟩] scope cl pos RR E (.ref I) s := by
  refine comp_open F N hcell hkind fun C D h₁ tk oC F₁ N₁ hns off₁ hCD old below => ?_
  have hIo1 : ∃ o, s.heap.get? I = some o := let ⟨o, e, _⟩ := hIo _ _ hst; ⟨o, e⟩
  obtain ⟨o0, e0⟩ := hIo1
  have hCI := (below _ _ e0).1
  have hDI := (below _ _ e0).2
  have hst₁ : St 0 h₁ := W.frame _ _ _ hst fun b hb o e => old b o e
  have hCfp : C ∉ fp := fun hm => let ⟨o, e⟩ := hfp _ hm; (below _ _ e).1 rfl
  have W' := name_steps (cenv := compEnvC scope cl C env) (x := x) (px := px) W (lookup_relabel_local hx) (by simp [compEnvC, relabel, hkind]) (Ne.symm hCI) hCfp
  refine ⟨fun Q E hQ => W'.self 0 _ _ _ hst₁ hQ, ?_⟩
  have hoff3 : ∀ q ∈ news, q.1 ≠ I ∧ q.1 ≠ C ∧ q.1 ≠ D := fun q hq => ⟨hoff q hq, off₁ q hq⟩
  refine comp_loop (k := 0) (C := C) (target := .Name x px) (p := iter.pos) (rest := eval elt (compEnvC scope cl C env) >>= fun x => call (.builtin "list.append") [.ref D, x] >>= fun _ => pure PUnit.unit) (wr := [I]) (n := n) (news := news) S
    (fun i ys _ nw => ys.length = i ∧ J i ys nw) rfl (by rfl) W' (fun i h st b hb => ?_) (fun i h h' nw st hk h0k Nw hSn => ?_) hS ?_ hst₁ F₁ N₁ hns ⟨rfl, h0⟩ hS0 (fun q hq => ⟨by simpa using (hoff3 q hq).1, (hoff3 q hq).2⟩) (by simpa using Ne.symm hCI) (by simpa using Ne.symm hDI) hCD (by simpa using hLI) (by simpa using hI₀) ?_ ?_
  · rw [List.mem_singleton.mp hb]; exact hIo _ _ st
  · obtain ⟨o, e, _⟩ := hIo _ _ st
    exact hSt _ _ _ o _ st e (hk I (by simp) o e) h0k Nw hSn
  · intro i ys m₁ nw nw' h hk
    exact ⟨h.1, hJ _ _ _ _ h.2 hk⟩
  · intro i iso oC' m₁ m₂ ys nw h tk' E' hi zq1 zq2 hns' hiso hisoC hS' F' N' off'
    (try dsimp only)
    (try k_fold)
    obtain ⟨hyl, hJ'⟩ := zq1
    first | (refine e0a3 (zq2) ?_; intro v hP er2; (try clear zq2); subst er2) | (refine e1a2 (zq2) ?_; intro v hP er2; (try clear zq2); subst er2) | (refine e2a1 (zq2) ?_; intro v hP er2; (try clear zq2); subst er2) | obtain ⟨v, hP, rfl⟩ := zq2
    obtain ⟨oI, rfl⟩ : ∃ oI, iso = [(I, oI)] := by
      cases iso with
      | nil => simp at hiso
      | cons q r =>
        obtain ⟨a, o⟩ := q
        simp at hiso
        obtain ⟨rfl, rfl⟩ := hiso
        exact ⟨o, rfl⟩
    refine emit_rest (news := news) (ys := ys) (oC := oC') (m₂ := fun z => if z = x then some v else m₁ z) (fun q hq => ?_) hCD (by (first | lia | omega)) (fun q hq => (hoff3 q hq).2.2) hS (fun y m n n' h hk => ⟨h.1, hJ _ _ _ _ h.2 hk⟩) ?_
    · rw [List.mem_singleton.mp hq]; exact hDI
    · have off3 : LCg.Off3 I C D nw := LCg.Off3.of fun p hp => ⟨by simpa using (off' p hp).1, (off' p hp).2⟩
      refine wpAny_mono (turn i v oI C oC' D _ ys nw h tk' E' _ ⟨h₁, tk, rfl⟩ hi hP hyl (hisoC _ (.head _)) hns' (by simp) hS' hJ' F' N' off3 ⟨hCI, hDI, hCD⟩ hoff3) (fun y s₃ h₃ => ?_) fun _ _ e => e
      refine Small.go ?_
      intro gSm hSm
      obtain ⟨h', tk'', nw', rfl, F₃, N₃, hI₃, hC₃, hD₃, hS₃, hJ₃⟩ := h₃
      refine hSm ?_
      clear hSm gSm
      exact ⟨h', tk'', nw', rfl, F₃, N₃, fun q hq => by rw [List.mem_singleton.mp hq]; exact hI₃, hC₃, hns', hD₃, hS₃, by simp [hyl], hJ₃⟩
  · intro oC' m₁ ys nw h tk' zq3 hS' hns' F' N' off'
    (try dsimp only)
    (try k_fold)
    obtain ⟨hyl, hJ'⟩ := zq3
    exact done C D oC' m₁ ys nw h tk' hyl hJ' hS' hns' F' N' off' hCD off₁
end
end
section
section
variable {prog : Program} {w : World} {A : Around} {E : Value → Shared → Prop} {s : Shared} {env : Env} {h₀ : Heap} {L : Addr} {m : Str → Option Value}

theorem comp_list {elt iter : Expr} {x : Str} {px : Pos} {scope : Scope} {cl : List (Str × Addr)} {pos : Pos} {RR : Value → Addr → Result → Shared → Prop} {l : Addr} {vs : List Value} {nl : Nat} {news : Led} (J : Nat → List Value → Led → Prop)
    (hh : A.handled = none) (F : Fr h₀ L s.heap m) (N : News h₀ L s.heap news) (hl : (l, listOf vs.toArray nl) ∈ news)
    (hcell : ∀ y ∈ scope.names, y.2 ≠ .cell) (hkind : scope.kind = .function) (hx : scope.names.lookup x = some .local) (hn : vs.length ≤ 1000) (h0 : J 0 [] news)
    (hJ : ∀ i ys nw nw', J i ys nw → (∀ p ∈ nw, Kept news p → p ∈ nw') → J i ys nw')
    (turn : ∀ i v I oI C oC D m₂ ys nw h tk (E' : Value → Shared → Prop) s', (∃ g tk, s' = { s with heap := g, toks := tk }) → vs[i]? = some v → ys.length = i → oI.cls ≠ .type "tuple" → LCg.NsObj oC m₂ → m₂ x = some v → (l, listOf vs.toArray nl) ∈ nw → J i ys nw → Fr h₀ L h m → News h₀ L h ((I, oI) :: (C, oC) :: (D, LCg.lst ys) :: nw) → LCg.Off3 I C D nw → ((@Ne Nat I C) ∧ (@Ne Nat I D) ∧ (@Ne Nat C D)) → (∀ q ∈ news, q.1 ≠ I ∧ q.1 ≠ C ∧ q.1 ≠ D) →
      wpAny (model prog w) A (eval elt (compEnvC scope cl C env)) (ElEnd h₀ L m s' I oI C oC D (LCg.lst ys) (fun y nw' => (l, listOf vs.toArray nl) ∈ nw' ∧ J (i + 1) (ys ++ [y]) nw')) E' { s' with heap := h, toks := tk })
    (done : ∀ C D oC m₁ ys nw h tk s', (∃ g, s' = { s with heap := g }) → ys.length = vs.length → J vs.length ys nw → (l, listOf vs.toArray nl) ∈ nw → LCg.NsObj oC m₁ → Fr h₀ L h m → News h₀ L h ((C, oC) :: (D, LCg.lst ys) :: nw) → (∀ p ∈ nw, p.1 ≠ C ∧ p.1 ≠ D) → C ≠ D → (∀ q ∈ news, q.1 ≠ C ∧ q.1 ≠ D) → RR (.ref D) C (.ok .next) { s' with heap := h, toks := tk }) :
    wpAny (model prog w) A (pyIter (.ref l)) (CompAt prog w A env elt [⟨.Name x px, iter, [], 0⟩] scope cl pos RR E) E s := by
  have hls : s.heap.IsList l vs.toArray := News.isList N hl
  first | (refine e0a3 (id hls) ?_; intro ol hol _) | (refine e1a2 (id hls) ?_; intro ol hol _) | (refine e2a1 (id hls) ?_; intro ol hol _) | obtain ⟨ol, hol, _⟩ := id hls
  have hlt : l < s.heap.objs.size := Heap.lt_size hol
  have hne : l ≠ s.heap.objs.size := Nat.ne_of_lt hlt
  refine wpAny_pyIter_list hls ?_
  have W := Walks.list (prog := prog) (w := w) hh s.heap.objs.size l hne vs.toArray
  rw [show vs.toArray.size = vs.length from List.size_toArray] at W
  refine comp_name (fun nw => (l, listOf vs.toArray nl) ∈ nw) J hcell hkind hx W hn (fun b hb => ?_) (fun i h st => ?_) (fun i h h' o nw st e e' k N S => ?_) (fun nw nw' h hk => hk _ h (.inr ⟨_, hl, rfl⟩)) hJ ⟨⟨_, Heap.get?_push_size _ rfl, rfl, rfl⟩, hls.push _⟩ (F.push _) (fun p hp => ⟨Heap.get?_push_of_some _ (N p hp).1, (N p hp).2⟩) (Nat.ne_of_lt F.ns.lt) (next_is_new F) (fun q hq => Nat.ne_of_lt (Heap.lt_size (N q hq).1)) h0 hl ?_ ?_
  · rcases List.mem_cons.mp hb with rfl | hb
    · exact ⟨_, Heap.get?_push_size _ rfl⟩
    · rw [List.mem_singleton.mp hb]; exact ⟨_, Heap.get?_push_of_some _ hol⟩
  · obtain ⟨o, ho, hc, _⟩ := st.1
    exact ⟨o, ho, by rw [hc]; simp⟩
  · obtain ⟨⟨o', q, r⟩, _⟩ := st
    rw [e] at q; cases q
    exact ⟨⟨o, e', r⟩, News.isList N S⟩
  · intro i v oI C oC D m₂ ys nw h tk E' s' zq1 hi hP hyl hc hns hm hS hJ' F' N' off3 hne3 hoff
    (try dsimp only)
    (try k_fold)
    first | (refine e0a3 (zq1) ?_; intro g tk' er2; (try clear zq1); subst er2) | (refine e1a2 (zq1) ?_; intro g tk' er2; (try clear zq1); subst er2) | (refine e2a1 (zq1) ?_; intro g tk' er2; (try clear zq1); subst er2) | obtain ⟨g, tk', rfl⟩ := zq1
    exact turn i v _ oI C oC D m₂ ys nw h tk E' _ ⟨g, tk', rfl⟩ (by simpa using hP) hyl hc hns hm hS hJ' F' N' off3 hne3 hoff
  · intro C D oC m₁ ys nw h tk hyl hJ' hS hns F' N' off hCD hoff
    exact done C D oC m₁ ys nw h tk _ ⟨_, rfl⟩ hyl hJ' hS hns F' N' off hCD hoff

theorem comp_str {elt iter : Expr} {x : Str} {px : Pos} {scope : Scope} {cl : List (Str × Addr)} {pos : Pos} {RR : Value → Addr → Result → Shared → Prop} {z : Str} {t : Tok} {news : Led} (J : Nat → List Value → Led → Prop)
    (hh : A.handled = none) (F : Fr h₀ L s.heap m) (N : News h₀ L s.heap news)
    (hcell : ∀ y ∈ scope.names, y.2 ≠ .cell) (hkind : scope.kind = .function) (hx : scope.names.lookup x = some .local) (hn : z.cps.size ≤ 1000) (h0 : J 0 [] news)
    (hJ : ∀ i ys nw nw', J i ys nw → (∀ p ∈ nw, Kept news p → p ∈ nw') → J i ys nw')
    (turn : ∀ i v I oI C oC D m₂ ys nw h tk (E' : Value → Shared → Prop) s', (∃ g tk, s' = { s with heap := g, toks := tk }) → i < z.cps.size → SignAt z i v → ys.length = i → oI.cls ≠ .type "tuple" → LCg.NsObj oC m₂ → m₂ x = some v → J i ys nw → Fr h₀ L h m → News h₀ L h ((I, oI) :: (C, oC) :: (D, LCg.lst ys) :: nw) → LCg.Off3 I C D nw → ((@Ne Nat I C) ∧ (@Ne Nat I D) ∧ (@Ne Nat C D)) → (∀ q ∈ news, q.1 ≠ I ∧ q.1 ≠ C ∧ q.1 ≠ D) →
      wpAny (model prog w) A (eval elt (compEnvC scope cl C env)) (ElEnd h₀ L m s' I oI C oC D (LCg.lst ys) (fun y nw' => True ∧ J (i + 1) (ys ++ [y]) nw')) E' { s' with heap := h, toks := tk })
    (done : ∀ C D oC m₁ ys nw h tk s', (∃ g, s' = { s with heap := g }) → ys.length = z.cps.size → J z.cps.size ys nw → LCg.NsObj oC m₁ → Fr h₀ L h m → News h₀ L h ((C, oC) :: (D, LCg.lst ys) :: nw) → (∀ p ∈ nw, p.1 ≠ C ∧ p.1 ≠ D) → C ≠ D → (∀ q ∈ news, q.1 ≠ C ∧ q.1 ≠ D) → RR (.ref D) C (.ok .next) { s' with heap := h, toks := tk }) :
    wpAny (model prog w) A (pyIter (.str z t)) (CompAt prog w A env elt [⟨.Name x px, iter, [], 0⟩] scope cl pos RR E) E s := by
  have go : ∀ (o : Obj) (St : Nat → Heap → Prop), Walks prog w A s.heap.objs.size [s.heap.objs.size] [s.heap.objs.size] z.cps.size (SignAt z) St → St 0 (s.heap.push o) → (∀ i h, St i h → ∃ o, h.get? s.heap.objs.size = some o ∧ o.cls ≠ .type "tuple") → (∀ i h h' o, St i h → h.get? s.heap.objs.size = some o → h'.get? s.heap.objs.size = some o → St i h') → o.isFreed = false →
      CompAt prog w A env elt [⟨.Name x px, iter, [], 0⟩] scope cl pos RR E (.ref s.heap.objs.size) { s with heap := s.heap.push o } := by
    intro o St W st hIo hSt hfr
    refine comp_name (fun _ => True) J hcell hkind hx W hn (fun b hb => ?_) hIo (fun i h h' o nw st e e' k N S => hSt i h h' o st e e') (fun nw nw' h hk => trivial) hJ st (F.push _) (fun p hp => ⟨Heap.get?_push_of_some _ (N p hp).1, (N p hp).2⟩) (Nat.ne_of_lt F.ns.lt) (next_is_new F) (fun q hq => Nat.ne_of_lt (Heap.lt_size (N q hq).1)) h0 trivial ?_ ?_
    · rw [List.mem_singleton.mp hb]; exact ⟨_, Heap.get?_push_size _ hfr⟩
    · intro i v oI C oC D m₂ ys nw h tk E' s' zq2 hi hP hyl hc hns hm hS hJ' F' N' off3 hne3 hoff
      (try dsimp only)
      (try k_fold)
      first | (refine e0a3 (zq2) ?_; intro g tk' er2; (try clear zq2); subst er2) | (refine e1a2 (zq2) ?_; intro g tk' er2; (try clear zq2); subst er2) | (refine e2a1 (zq2) ?_; intro g tk' er2; (try clear zq2); subst er2) | obtain ⟨g, tk', rfl⟩ := zq2
      exact turn i v _ oI C oC D m₂ ys nw h tk E' _ ⟨g, tk', rfl⟩ hi hP hyl hc hns hm hJ' F' N' off3 hne3 hoff
    · intro C D oC m₁ ys nw h tk hyl hJ' hS hns F' N' off hCD hoff
      exact done C D oC m₁ ys nw h tk _ ⟨_, rfl⟩ hyl hJ' hns F' N' off hCD hoff
  have hIo : ∀ {cls : String}, cls ≠ "tuple" → ∀ i (h : Heap), h.IsStrIter s.heap.objs.size cls z t i → ∃ o, h.get? s.heap.objs.size = some o ∧ o.cls ≠ .type "tuple" := fun hc i h st => by
    first | (refine e0a4 (st) ?_; intro o e c _; (try clear st)) | (refine e1a3 (st) ?_; intro o e c _; (try clear st)) | (refine e2a2 (st) ?_; intro o e c _; (try clear st)) | (refine e3a1 (st) ?_; intro o e c _; (try clear st)) | obtain ⟨o, e, c, _⟩ := st
    exact ⟨o, e, by rw [c]; simpa using hc⟩
  have hSt : ∀ {cls : String} i (h h' : Heap) (o : Obj), h.IsStrIter s.heap.objs.size cls z t i → h.get? s.heap.objs.size = some o → h'.get? s.heap.objs.size = some o → h'.IsStrIter s.heap.objs.size cls z t i := fun i h h' o st e e' => by
    first | (refine e0a3 (st) ?_; intro o' q r; (try clear st)) | (refine e1a2 (st) ?_; intro o' q r; (try clear st)) | (refine e2a1 (st) ?_; intro o' q r; (try clear st)) | obtain ⟨o', q, r⟩ := st
    rw [e] at q; cases q
    exact ⟨o, e', r⟩
  cases ha : z.cps.all (· < 128)
  · exact wpAny_pyIter_wide ha (go _ _ (Walks.strWide hh _ z t) ⟨_, Heap.get?_push_size _ rfl, rfl, rfl⟩ (hIo (by decide)) hSt rfl)
  · exact wpAny_pyIter_ascii ha (go _ _ (Walks.strAscii hh _ z t) ⟨_, Heap.get?_push_size _ rfl, rfl, rfl⟩ (hIo (by decide)) hSt rfl)
end
def Sub (news nw : Led) : Prop := ∀ p ∈ news, p ∈ nw
theorem Sub.kept {news nw nw' : Led} (h : Sub news nw) (hk : ∀ p ∈ nw, Kept news p → p ∈ nw') : Sub news nw' := fun p hp => hk p (h p hp) (.inr ⟨p, hp, rfl⟩)
theorem Sub.refl (news : Led) : Sub news news := fun _ h => h
end
section
section
variable {prog : Program} {w : World} {A : Around} {E : Value → Shared → Prop} {s : Shared} {env : Env} {h₀ : Heap} {L : Addr} {m : Str → Option Value}

theorem comp_gen {elt iter target : Expr} {scope : Scope} {cl : List (Str × Addr)} {pos : Pos} {RR : Value → Addr → Result → Shared → Prop} {it : Value} {wr : List Addr} {n : Nat} {P : Nat → (Str → Option Value) → (Str → Option Value) → Prop} {St : Nat → Heap → Prop} {news : Led} (S : Led → Prop) (J : Nat → List Value → Led → Prop)
    (heq : ∀ (D : Addr) (cenv : Env), compTurn (.ListComp elt [⟨target, iter, [], 0⟩] scope pos) 0 it (.ref D) cenv = (standAt iter.pos >>= fun _ => pyNext it >>= fun r => match r with
      | none => pure (.done .next)
      | some v => letOwnedTupleGo target it v >>= fun _ => assign target cenv v >>= fun _ => (eval elt cenv >>= fun x => call (.builtin "list.append") [.ref D, x] >>= fun _ => pure PUnit.unit) >>= fun _ => again (.compLoop (.ListComp elt [⟨target, iter, [], 0⟩] scope pos) 0 it (.ref D) cenv)))
    (hcell : ∀ y ∈ scope.names, y.2 ≠ .cell) (hkind : scope.kind = .function)
    (W : ∀ C, (∀ b o, s.heap.get? b = some o → b ≠ C) → Steps prog w A (compEnvC scope cl C env) target it wr n P St) (hn : n ≤ 1000)
    (hIo : ∀ i h, St i h → ∀ b ∈ wr, ∃ o, h.get? b = some o ∧ o.cls ≠ .type "tuple")
    (hSt : ∀ i h h' nw, St i h → (∀ b ∈ wr, ∀ o, h.get? b = some o → h'.get? b = some o) → (∀ b o, h₀.get? b = some o → h'.get? b = some o) → News h₀ L h' nw → S nw → St i h')
    (hS : ∀ nw nw', S nw → (∀ p ∈ nw, Kept news p → p ∈ nw') → S nw')
    (hJ : ∀ i ys nw nw', J i ys nw → (∀ p ∈ nw, Kept news p → p ∈ nw') → J i ys nw')
    (hst : St 0 s.heap) (hst' : ∀ h', (∀ b o, s.heap.get? b = some o → h'.get? b = some o) → St 0 h') (F : Fr h₀ L s.heap m) (N : News h₀ L s.heap news) (hLw : L ∉ wr) (hw0 : ∀ b ∈ wr, h₀.get? b = none) (hoff : ∀ q ∈ news, q.1 ∉ wr) (h0 : J 0 [] news) (hS0 : S news)
    (turn : ∀ i iso oC C D m₁ m₂ ys nw h tk (E' : Value → Shared → Prop) s', (∃ g tk, s' = { s with heap := g, toks := tk }) → i < n → P i m₁ m₂ → ys.length = i → iso.map (·.1) = wr → (∀ q ∈ iso, q.2.cls ≠ .type "tuple") → LCg.NsObj oC m₂ → S nw → J i ys nw → Fr h₀ L h m → News h₀ L h (iso ++ (C, oC) :: (D, LCg.lst ys) :: nw) → (∀ p ∈ nw, p.1 ∉ wr ∧ p.1 ≠ C ∧ p.1 ≠ D) → C ≠ D → C ∉ wr → D ∉ wr → (∀ q ∈ news, q.1 ≠ C ∧ q.1 ≠ D) →
      wpAny (model prog w) A (eval elt (compEnvC scope cl C env)) (fun y s₃ => ∃ h' tk' nw', s₃ = { s' with heap := h', toks := tk' } ∧ Fr h₀ L h' m ∧ News h₀ L h' nw' ∧ (∀ q ∈ iso, q ∈ nw') ∧ (C, oC) ∈ nw' ∧ (D, LCg.lst ys) ∈ nw' ∧ S nw' ∧ J (i + 1) (ys ++ [y]) nw') E' { s' with heap := h, toks := tk })
    (done : ∀ C D oC m₁ ys nw h tk, ys.length = n → J n ys nw → S nw → LCg.NsObj oC m₁ → Fr h₀ L h m → News h₀ L h ((C, oC) :: (D, LCg.lst ys) :: nw) → (∀ p ∈ nw, p.1 ≠ C ∧ p.1 ≠ D) → C ≠ D → (∀ q ∈ news, q.1 ≠ C ∧ q.1 ≠ D) → RR (.ref D) C (.ok .next) { s with heap := h, toks := tk }) :
    CompAt prog w A env elt [⟨target, iter, [], 0⟩] scope cl pos RR E it s := by
  refine comp_open F N hcell hkind fun C D h₁ tk oC F₁ N₁ hns off₁ hCD old below => ?_
  have hCw : C ∉ wr := fun hm => let ⟨o, e, _⟩ := hIo _ _ hst _ hm; (below _ _ e).1 rfl
  have hDw : D ∉ wr := fun hm => let ⟨o, e, _⟩ := hIo _ _ hst _ hm; (below _ _ e).2 rfl
  have hst₁ : St 0 h₁ := hst' _ old
  have W' := W C fun b o e => (below b o e).1
  refine ⟨fun Q E hQ => W'.self 0 _ _ _ hst₁ hQ, ?_⟩
  refine comp_loop (k := 0) (C := C) (target := target) (p := iter.pos) (rest := eval elt (compEnvC scope cl C env) >>= fun x => call (.builtin "list.append") [.ref D, x] >>= fun _ => pure PUnit.unit) (wr := wr) (n := n) (news := news) S
    (fun i ys _ nw => ys.length = i ∧ J i ys nw) rfl (heq D _) W' hIo hSt hS ?_ hst₁ F₁ N₁ hns ⟨rfl, h0⟩ hS0 (fun q hq => ⟨hoff q hq, off₁ q hq⟩) hCw hDw hCD hLw hw0 ?_ ?_
  · intro i ys m₁ nw nw' h hk
    exact ⟨h.1, hJ _ _ _ _ h.2 hk⟩
  · intro i iso oC' m₁ m₂ ys nw h tk' E' hi zq1 hP hns' hiso hisoC hS' F' N' off'
    (try dsimp only)
    (try k_fold)
    obtain ⟨hyl, hJ'⟩ := zq1
    refine emit_rest (news := news) (ys := ys) (oC := oC') (m₂ := m₂) (fun q hq => ?_) hCD (by (first | lia | omega)) (fun q hq => (off₁ q hq).2) hS (fun y m n n' h hk => ⟨h.1, hJ _ _ _ _ h.2 hk⟩) ?_
    · intro e
      exact hDw (by rw [← hiso, ← e]; exact List.mem_map_of_mem hq)
    · refine wpAny_mono (turn i iso oC' C D m₁ m₂ ys nw h tk' E' _ ⟨h₁, tk, rfl⟩ hi hP hyl hiso hisoC hns' hS' hJ' F' N' off' hCD hCw hDw off₁) (fun y s₃ h₃ => ?_) fun _ _ e => e
      refine Small.go ?_
      intro gSm hSm
      obtain ⟨h', tk'', nw', rfl, F₃, N₃, hI₃, hC₃, hD₃, hS₃, hJ₃⟩ := h₃
      refine hSm ?_
      clear hSm gSm
      exact ⟨h', tk'', nw', rfl, F₃, N₃, hI₃, hC₃, hns', hD₃, hS₃, by simp [hyl], hJ₃⟩
  · intro oC' m₁ ys nw h tk' zq2 hS' hns' F' N' off'
    (try dsimp only)
    (try k_fold)
    obtain ⟨hyl, hJ'⟩ := zq2
    exact done C D oC' m₁ ys nw h tk' hyl hJ' hS' hns' F' N' off' hCD off₁

abbrev pairT (x y : Value) : Obj := { cls := .type "tuple", data := .seq #[x, y] }

theorem pair_steps {cenv : Env} {a b : Str} {pa pb tp : Pos} {kk : Nat} {I l : Addr} {vs : List Value} {tups : Led} (hh : A.handled = none) (hne : l ≠ I)
    (htup : ∀ v ∈ vs, ∃ T x y, v = .ref T ∧ (T, pairT x y) ∈ tups)
    (ha : cenv.kindOf a = some .local) (hb : cenv.kindOf b = some .local) (hp : (cenv.scope.kind == .class || (cenv.scope.kind == .module && cenv.locals != cenv.globals)) = false) (hCI : cenv.locals ≠ I) (hCl : cenv.locals ≠ l) (hCt : ∀ p ∈ tups, cenv.locals ≠ p.1) (hIt : ∀ p ∈ tups, p.1 ≠ I) :
    Steps prog w A cenv (.Tuple [.Name a pa, .Name b pb] kk tp) (.ref I) [I] vs.length (fun i m₁ m₂ => ∃ T x y, vs[i]? = some (.ref T) ∧ (T, pairT x y) ∈ tups ∧ m₂ = fun z => if z = b then some y else if z = a then some x else m₁ z)
      (fun i h => (h.IsListIter I l i ∧ h.IsList l vs.toArray) ∧ ∀ p ∈ tups, h.get? p.1 = some p.2) where
  item := fun i s m K1 K0 E hi hst hns hK => by
    have W := Walks.list (prog := prog) (w := w) (A := A) hh I l hne vs.toArray
    rw [show vs.toArray.size = vs.length from List.size_toArray] at W
    refine W.item i _ _ _ hi hst.1 fun v h₁ tk₁ hP hst₁ hk₁ => ?_
    have hPv : vs[i]? = some v := by simpa using hP
    first | (refine e0a5 (htup v (List.mem_of_getElem? hPv)) ?_; intro T x y er3 hT; subst er3) | (refine e1a4 (htup v (List.mem_of_getElem? hPv)) ?_; intro T x y er3 hT; subst er3) | (refine e2a3 (htup v (List.mem_of_getElem? hPv)) ?_; intro T x y er3 hT; subst er3) | (refine e3a2 (htup v (List.mem_of_getElem? hPv)) ?_; intro T x y er3 hT; subst er3) | (refine e4a1 (htup v (List.mem_of_getElem? hPv)) ?_; intro T x y er3 hT; subst er3) | obtain ⟨T, x, y, rfl, hT⟩ := htup v (List.mem_of_getElem? hPv)
    have hT1 : h₁.IsTuple T #[x, y] := ⟨_, hk₁ _ _ (by simpa using hIt _ hT) (hst.2 _ hT), rfl, _, rfl⟩
    refine wpAny_letOwnedTupleGo_listiter hst₁.1 ?_
    refine kcp_assign hh hT1 ha hb hp (hns.at' fun o e => hk₁ _ o (by simpa using hCI) e) fun h' tk hn' hk' => ?_
    refine hK h' tk _ ⟨T, x, y, hPv, hT, rfl⟩ ⟨⟨hst₁.1.at fun o e => hk' _ o (Ne.symm hCI) e, hst₁.2.at fun o e => hk' _ o (Ne.symm hCl) e⟩, fun p hp => hk' _ _ (Ne.symm (hCt p hp)) (hk₁ _ _ (by simpa using hIt p hp) (hst.2 p hp))⟩ hn' fun b o hb hC e => hk' b o hC (hk₁ b o hb e)
  done := fun s K1 K0 E hst hK => by
    have W := Walks.list (prog := prog) (w := w) (A := A) hh I l hne vs.toArray
    rw [show vs.toArray.size = vs.length from List.size_toArray] at W
    exact W.done _ _ _ hst.1 fun h' tk hk => hK h' tk hk
  self := fun i s Q E hst hQ => by
    have W := Walks.list (prog := prog) (w := w) (A := A) hh I l hne vs.toArray
    exact W.self i _ _ _ hst.1 hQ

theorem comp_pairs {elt iter : Expr} {a b : Str} {pa pb tp : Pos} {kk : Nat} {scope : Scope} {cl : List (Str × Addr)} {pos : Pos} {RR : Value → Addr → Result → Shared → Prop} {l : Addr} {vs : List Value} {nl : Nat} {news tups : Led} (J : Nat → List Value → Led → Prop)
    (hh : A.handled = none) (F : Fr h₀ L s.heap m) (N : News h₀ L s.heap news) (hl : (l, listOf vs.toArray nl) ∈ news) (htup : ∀ v ∈ vs, ∃ T x y, v = .ref T ∧ (T, pairT x y) ∈ tups) (htn : ∀ p ∈ tups, p ∈ news)
    (hcell : ∀ y ∈ scope.names, y.2 ≠ .cell) (hkind : scope.kind = .function) (hxa : scope.names.lookup a = some .local) (hxb : scope.names.lookup b = some .local) (hab : a ≠ b) (hn : vs.length ≤ 1000) (h0 : J 0 [] news)
    (hJ : ∀ i ys nw nw', J i ys nw → (∀ p ∈ nw, Kept news p → p ∈ nw') → J i ys nw')
    (turn : ∀ i T x y I oI C oC D m₂ ys nw h tk (E' : Value → Shared → Prop) s', (∃ g tk, s' = { s with heap := g, toks := tk }) → vs[i]? = some (.ref T) → (T, pairT x y) ∈ tups → ys.length = i → oI.cls ≠ .type "tuple" → LCg.NsObj oC m₂ → m₂ a = some x → m₂ b = some y → (l, listOf vs.toArray nl) ∈ nw → (∀ p ∈ tups, p ∈ nw) → J i ys nw → Fr h₀ L h m → News h₀ L h ((I, oI) :: (C, oC) :: (D, LCg.lst ys) :: nw) → LCg.Off3 I C D nw → ((@Ne Nat I C) ∧ (@Ne Nat I D) ∧ (@Ne Nat C D)) →
      wpAny (model prog w) A (eval elt (compEnvC scope cl C env)) (ElEnd h₀ L m s' I oI C oC D (LCg.lst ys) (fun y nw' => ((l, listOf vs.toArray nl) ∈ nw' ∧ ∀ p ∈ tups, p ∈ nw') ∧ J (i + 1) (ys ++ [y]) nw')) E' { s' with heap := h, toks := tk })
    (done : ∀ C D oC m₁ ys nw h tk s', (∃ g, s' = { s with heap := g }) → ys.length = vs.length → J vs.length ys nw → (l, listOf vs.toArray nl) ∈ nw → (∀ p ∈ tups, p ∈ nw) → LCg.NsObj oC m₁ → Fr h₀ L h m → News h₀ L h ((C, oC) :: (D, LCg.lst ys) :: nw) → (∀ p ∈ nw, p.1 ≠ C ∧ p.1 ≠ D) → C ≠ D → (∀ q ∈ news, q.1 ≠ C ∧ q.1 ≠ D) → RR (.ref D) C (.ok .next) { s' with heap := h, toks := tk }) :
    wpAny (model prog w) A (pyIter (.ref l)) (CompAt prog w A env elt [⟨.Tuple [.Name a pa, .Name b pb] kk tp, iter, [], 0⟩] scope cl pos RR E) E s := by
  have hls : s.heap.IsList l vs.toArray := News.isList N hl
  first | (refine e0a3 (id hls) ?_; intro ol hol _) | (refine e1a2 (id hls) ?_; intro ol hol _) | (refine e2a1 (id hls) ?_; intro ol hol _) | obtain ⟨ol, hol, _⟩ := id hls
  have hlt : l < s.heap.objs.size := Heap.lt_size hol
  have hne : l ≠ s.heap.objs.size := Nat.ne_of_lt hlt
  refine wpAny_pyIter_list hls ?_
  have up : ∀ b o, s.heap.get? b = some o → (s.heap.push { cls := .type "list_iterator", data := .fields #[.ref l, .int 0 0] }).get? b = some o := fun b o e => Heap.get?_push_of_some _ e
  have ht0 : ∀ p ∈ tups, (s.heap.push { cls := .type "list_iterator", data := .fields #[.ref l, .int 0 0] }).get? p.1 = some p.2 := fun p hp => up _ _ (N p (htn p hp)).1
  refine comp_gen (wr := [s.heap.objs.size]) (n := vs.length) (fun nw => (l, listOf vs.toArray nl) ∈ nw ∧ ∀ p ∈ tups, p ∈ nw) J (fun D cenv => by rfl) hcell hkind
    (fun C hC => pair_steps hh hne htup (lookup_relabel_local hxa) (lookup_relabel_local hxb) (by simp [compEnvC, relabel, hkind]) (Ne.symm (hC _ _ (Heap.get?_push_size _ rfl))) (Ne.symm (hC _ _ (up _ _ hol))) (fun p hp => Ne.symm (hC _ _ (ht0 p hp))) fun p hp => Nat.ne_of_lt (Heap.lt_size (N p (htn p hp)).1)) hn
    (fun i h st b hb => ?_) (fun i h h' nw st hk k N' hS' => ?_) (fun nw nw' h hk => ⟨hk _ h.1 (.inr ⟨_, hl, rfl⟩), fun p hp => hk p (h.2 p hp) (.inr ⟨p, htn p hp, rfl⟩)⟩) hJ ⟨⟨⟨_, Heap.get?_push_size _ rfl, rfl, rfl⟩, hls.push _⟩, ht0⟩ (fun h' hk => ⟨⟨⟨_, hk _ _ (Heap.get?_push_size _ rfl), rfl, rfl⟩, hls.at fun o e => hk _ _ (up _ _ e)⟩, fun p hp => hk _ _ (ht0 p hp)⟩)
    (F.push _) (fun p hp => ⟨up _ _ (N p hp).1, (N p hp).2⟩) (by simpa using Nat.ne_of_lt F.ns.lt) (by simpa using next_is_new F) (fun q hq => by simpa using Nat.ne_of_lt (Heap.lt_size (N q hq).1)) h0 ⟨hl, htn⟩ ?_ ?_
  · rw [List.mem_singleton.mp hb]
    first | (refine e0a4 (st.1.1) ?_; intro o ho hc _) | (refine e1a3 (st.1.1) ?_; intro o ho hc _) | (refine e2a2 (st.1.1) ?_; intro o ho hc _) | (refine e3a1 (st.1.1) ?_; intro o ho hc _) | obtain ⟨o, ho, hc, _⟩ := st.1.1
    exact ⟨o, ho, by rw [hc]; simp⟩
  · exact ⟨⟨st.1.1.at fun o e => hk _ (by simp) o e, News.isList N' hS'.1⟩, fun p hp => (N' p (hS'.2 p hp)).1⟩
  · intro i iso oC C D m₁ m₂ ys nw h tk E' s' zq3 hi zq4 hyl hiso hisoC hns hS' hJ' F' N' off' hCD hCw hDw hoff
    (try dsimp only)
    (try k_fold)
    first | (refine e0a3 (zq3) ?_; intro g tk' er2; (try clear zq3); subst er2) | (refine e1a2 (zq3) ?_; intro g tk' er2; (try clear zq3); subst er2) | (refine e2a1 (zq3) ?_; intro g tk' er2; (try clear zq3); subst er2) | obtain ⟨g, tk', rfl⟩ := zq3
    first | (refine e0a6 (zq4) ?_; intro T x y hT hTt er5; (try clear zq4); subst er5) | (refine e1a5 (zq4) ?_; intro T x y hT hTt er5; (try clear zq4); subst er5) | (refine e2a4 (zq4) ?_; intro T x y hT hTt er5; (try clear zq4); subst er5) | (refine e3a3 (zq4) ?_; intro T x y hT hTt er5; (try clear zq4); subst er5) | (refine e4a2 (zq4) ?_; intro T x y hT hTt er5; (try clear zq4); subst er5) | (refine e5a1 (zq4) ?_; intro T x y hT hTt er5; (try clear zq4); subst er5) | obtain ⟨T, x, y, hT, hTt, rfl⟩ := zq4
    obtain ⟨oI, rfl⟩ : ∃ oI, iso = [(s.heap.objs.size, oI)] := by
      cases iso with
      | nil => simp at hiso
      | cons q r =>
        obtain ⟨a, o⟩ := q
        simp at hiso
        obtain ⟨rfl, rfl⟩ := hiso
        exact ⟨o, rfl⟩
    have hIC : s.heap.objs.size ≠ C := fun e => hCw (by simp [e])
    have hID : s.heap.objs.size ≠ D := fun e => hDw (by simp [e])
    refine wpAny_mono (turn i T x y _ oI C oC D _ ys nw h tk E' _ ⟨g, tk', rfl⟩ hT hTt hyl (hisoC _ (.head _)) hns (by simp [hab]) (by simp) hS'.1 hS'.2 hJ' F' N' (LCg.Off3.of fun p hp => ⟨by simpa using (off' p hp).1, (off' p hp).2⟩) ⟨hIC, hID, hCD⟩) (fun y s₃ h₃ => ?_) fun _ _ e => e
    refine Small.go ?_
    intro gSm hSm
    obtain ⟨h', tk'', nw', rfl, F₃, N₃, hI₃, hC₃, hD₃, hS₃, hJ₃⟩ := h₃
    refine hSm ?_
    clear hSm gSm
    exact ⟨h', tk'', nw', rfl, F₃, N₃, fun q hq => by rw [List.mem_singleton.mp hq]; exact hI₃, hC₃, hD₃, hS₃, hJ₃⟩
  · intro C D oC m₁ ys nw h tk hyl hJ' hS' hns F' N' off hCD hoff
    exact done C D oC m₁ ys nw h tk _ ⟨_, rfl⟩ hyl hJ' hS'.1 hS'.2 hns F' N' off hCD hoff
end
end
section
section
variable {prog : Program} {w : World} {A : Around} {E : Value → Shared → Prop} {s : Shared} {env : Env} {h₀ : Heap} {L : Addr} {m : Str → Option Value}

theorem start_one {elt : Expr} {g0 : Comprehension} {target iter : Expr} {ifs : List Expr} {scope : Scope} {pos : Pos} {it acc : Value} {R : Result → Shared → Prop}
    (h0 : codeAny (model prog w) A (.compLoop (.ListComp elt [g0, ⟨target, iter, ifs, 0⟩] scope pos) 1 it acc env) R s)
    (h : ∀ (Q : Value → Shared → Prop) (E : Value → Shared → Prop), Q it s → wpAny (model prog w) A (pyIter it) Q E s) :
    codeAny (model prog w) A (.compStart (.ListComp elt [g0, ⟨target, iter, ifs, 0⟩] scope pos) 1 it acc env) R s := by
  refine codeAny_of_tree ?_
  show wpAny _ _ ((compStart (.ListComp elt [g0, ⟨target, iter, ifs, 0⟩] scope pos) 1 it acc env).onRaise (fun x => do noteFrame x env; standAt theWindowsPlace)) _ _ s
  refine wpAny_notedAt ?_
  unfold compStart
  show wpAny _ _ (ask >>= _) _ _ s
  refine wpAny_bind (wpAny_askSetting (wpAny_ite ?_))
  split
  · first
      | exact wpAny_bind (wpAny_pure (wpAny_pure (And.intro rfl h0)))
      | exact wpAny_pure (And.intro rfl h0)
  · first
      | exact wpAny_bind (wpAny_rule (wpAny_bind (wpAny_standAt (wpAny_bind (h _ _ (wpAny_pure (And.intro rfl h0)))))))
      | (refine wpAny_bind (wpAny_rule ?_); show wpAny _ _ (standAt iter.pos >>= _) _ _ s; exact wpAny_bind (wpAny_standAt (wpAny_bind (h _ _ (wpAny_pure (And.intro rfl h0))))))

theorem inner_list {elt : Expr} {g0 : Comprehension} {y : Str} {py : Pos} {iter : Expr} {ifs : List Expr} {scope : Scope} {pos : Pos} {C D l : Addr} {cenv : Env} {rest : Sem Unit} {vs : List Value} {nl : Nat} {iso nw : Led} {oC : Obj} {ys : List Value} {m₀ : Str → Option Value} {K : Shared → Prop}
    (J : Nat → List Value → (Str → Option Value) → Led → Prop) (hC : cenv.locals = C) (hh : A.handled = none)
    (heq : ∀ I : Addr, compTurn (.ListComp elt [g0, ⟨.Name y py, iter, ifs, 0⟩] scope pos) 1 (.ref I) (.ref D) cenv = (standAt iter.pos >>= fun _ => pyNext (.ref I) >>= fun r => match r with
      | none => pure (.done .next)
      | some v => letOwnedTupleGo (.Name y py) (.ref I) v >>= fun _ => assign (.Name y py) cenv v >>= fun _ => rest >>= fun _ => again (.compLoop (.ListComp elt [g0, ⟨.Name y py, iter, ifs, 0⟩] scope pos) 1 (.ref I) (.ref D) cenv)))
    (F : Fr h₀ L s.heap m) (N : News h₀ L s.heap (iso ++ (C, oC) :: (D, LCg.lst ys) :: nw)) (hns : LCg.NsObj oC m₀) (hoff : ∀ p ∈ iso ++ nw, p.1 ≠ C ∧ p.1 ≠ D) (hCD : C ≠ D) (hl : (l, listOf vs.toArray nl) ∈ nw)
    (hy : cenv.kindOf y = some .local) (hp : (cenv.scope.kind == .class || (cenv.scope.kind == .module && cenv.locals != cenv.globals)) = false)
    (h0 : J 0 ys m₀ (iso ++ nw))
    (hJ : ∀ i ys m₁ n n', J i ys m₁ n → (∀ p ∈ n, Kept (iso ++ nw) p → p ∈ n') → J i ys m₁ n')
    (turn : ∀ i v I oI oC m₁ ys nw' h tk (E' : Value → Shared → Prop) s', (∃ g tk, s' = { s with heap := g, toks := tk }) → vs[i]? = some v → J i ys m₁ nw' → LCg.NsObj oC (fun z => if z = y then some v else m₁ z) → oI.cls ≠ .type "tuple" → (l, listOf vs.toArray nl) ∈ nw' → Fr h₀ L h m → News h₀ L h ((I, oI) :: (C, oC) :: (D, LCg.lst ys) :: nw') →
      LCg.Off3 I C D nw' → ((@Ne Nat I C) ∧ (@Ne Nat I D) ∧ (@Ne Nat C D)) → (∀ q ∈ iso ++ nw, q.1 ≠ I ∧ q.1 ≠ C ∧ q.1 ≠ D) → wpAny (model prog w) A rest (fun _ s₃ => TurnEnd h₀ L m s' [(I, oI)] C D (fun n => (l, listOf vs.toArray nl) ∈ n) (J (i + 1)) s₃) E' { s' with heap := h, toks := tk })
    (done : ∀ oC m₁ ys nw' h tk, J vs.length ys m₁ nw' → (l, listOf vs.toArray nl) ∈ nw' → LCg.NsObj oC m₁ → Fr h₀ L h m → News h₀ L h ((C, oC) :: (D, LCg.lst ys) :: nw') → (∀ p ∈ nw', p.1 ≠ C ∧ p.1 ≠ D) → K { s with heap := h, toks := tk }) :
    wpAny (model prog w) A (pyIter (.ref l)) (fun it s₁ => wpAny (model prog w) A (runOwn (.compStart (.ListComp elt [g0, ⟨.Name y py, iter, ifs, 0⟩] scope pos) 1 it (.ref D) cenv) cenv) (fun _ s₂ => K s₂) E s₁) E s := by
  have hlL : (l, listOf vs.toArray nl) ∈ iso ++ (C, oC) :: (D, LCg.lst ys) :: nw := List.mem_append_right _ (.tail _ (.tail _ hl))
  have hls : s.heap.IsList l vs.toArray := News.isList N hlL
  first | (refine e0a3 (id hls) ?_; intro ol hol _) | (refine e1a2 (id hls) ?_; intro ol hol _) | (refine e2a1 (id hls) ?_; intro ol hol _) | obtain ⟨ol, hol, _⟩ := id hls
  have hlt : l < s.heap.objs.size := Heap.lt_size hol
  have hne : l ≠ s.heap.objs.size := Nat.ne_of_lt hlt
  refine wpAny_pyIter_list hls ?_
  have W := Walks.list (prog := prog) (w := w) (A := A) hh s.heap.objs.size l hne vs.toArray
  rw [show vs.toArray.size = vs.length from List.size_toArray] at W
  have hCm : (C, oC) ∈ iso ++ (C, oC) :: (D, LCg.lst ys) :: nw := List.mem_append_right _ (.head _)
  have hDm : (D, LCg.lst ys) ∈ iso ++ (C, oC) :: (D, LCg.lst ys) :: nw := List.mem_append_right _ (.tail _ (.head _))
  have hCI : C ≠ s.heap.objs.size := Nat.ne_of_lt (Heap.lt_size (N _ hCm).1)
  have hDI : D ≠ s.heap.objs.size := Nat.ne_of_lt (Heap.lt_size (N _ hDm).1)
  have hlm : (l, listOf vs.toArray nl) ∈ iso ++ nw := List.mem_append_right _ hl
  have hCl : C ≠ l := Ne.symm (hoff _ hlm).1
  have up : ∀ b o, s.heap.get? b = some o → (s.heap.push { cls := .type "list_iterator", data := .fields #[.ref l, .int 0 0] }).get? b = some o := fun b o e => Heap.get?_push_of_some _ e
  have W' := name_steps (cenv := cenv) (x := y) (px := py) W hy hp (by rw [hC]; exact hCI) (by rw [hC]; simp [hCI, hCl])
  have hst : (s.heap.push { cls := .type "list_iterator", data := .fields #[.ref l, .int 0 0] }).IsListIter s.heap.objs.size l 0 ∧ (s.heap.push { cls := .type "list_iterator", data := .fields #[.ref l, .int 0 0] }).IsList l vs.toArray := ⟨⟨_, Heap.get?_push_size _ rfl, rfl, rfl⟩, hls.push _⟩
  have sub : ∀ q ∈ iso ++ nw, q ∈ iso ++ (C, oC) :: (D, LCg.lst ys) :: nw := fun q hq => by
    rcases List.mem_append.mp hq with h | h
    · exact List.mem_append_left _ h
    · exact List.mem_append_right _ (.tail _ (.tail _ h))
  have N₁ : News h₀ L (s.heap.push { cls := .type "list_iterator", data := .fields #[.ref l, .int 0 0] }) ((C, oC) :: (D, LCg.lst ys) :: (iso ++ nw)) := fun p hp => by
    have : p ∈ iso ++ (C, oC) :: (D, LCg.lst ys) :: nw := by
      rcases List.mem_cons.mp hp with rfl | hp
      · exact hCm
      rcases List.mem_cons.mp hp with rfl | hp
      · exact hDm
      · exact sub p hp
    exact ⟨up _ _ (N p this).1, (N p this).2⟩
  refine wpAny_runOwn ?_
  refine start_one ?_ (fun Q E hQ => W'.self 0 _ _ _ hst hQ)
  refine comp_loop (k := 1) (C := C) (target := .Name y py) (p := iter.pos) (rest := rest) (wr := [s.heap.objs.size]) (n := vs.length) (news := iso ++ nw) (fun n => (l, listOf vs.toArray nl) ∈ n) J hC (heq _) W' (fun i h st b hb => ?_) (fun i h h' n st hk k N' hS' => ?_) (fun n n' h hk => hk _ h (.inr ⟨_, hlm, rfl⟩)) hJ hst (F.push _) N₁ hns h0 hlm
    (fun q hq => ⟨by simpa using Nat.ne_of_lt (Heap.lt_size (N q (sub q hq)).1), hoff q hq⟩) (by simpa using hCI) (by simpa using hDI) hCD (by simpa using Nat.ne_of_lt F.ns.lt) (by simpa using next_is_new F) ?_ ?_
  · rw [List.mem_singleton.mp hb]
    first | (refine e0a4 (st.1) ?_; intro o ho hc _) | (refine e1a3 (st.1) ?_; intro o ho hc _) | (refine e2a2 (st.1) ?_; intro o ho hc _) | (refine e3a1 (st.1) ?_; intro o ho hc _) | obtain ⟨o, ho, hc, _⟩ := st.1
    exact ⟨o, ho, by rw [hc]; simp⟩
  · exact ⟨st.1.at fun o e => hk _ (by simp) o e, News.isList N' hS'⟩
  · intro i iso' oC' m₁ m₂ ys' nw' h tk E' hi hJ' zq1 hns' hiso hisoC hS' F' N' off'
    (try dsimp only)
    (try k_fold)
    first | (refine e0a3 (zq1) ?_; intro v hP er2; (try clear zq1); subst er2) | (refine e1a2 (zq1) ?_; intro v hP er2; (try clear zq1); subst er2) | (refine e2a1 (zq1) ?_; intro v hP er2; (try clear zq1); subst er2) | obtain ⟨v, hP, rfl⟩ := zq1
    obtain ⟨oI, rfl⟩ : ∃ oI, iso' = [(s.heap.objs.size, oI)] := by
      cases iso' with
      | nil => simp at hiso
      | cons q r =>
        obtain ⟨a, o⟩ := q
        simp at hiso
        obtain ⟨rfl, rfl⟩ := hiso
        exact ⟨o, rfl⟩
    exact turn i v _ oI oC' m₁ ys' nw' h tk E' _ ⟨_, s.toks, rfl⟩ (by simpa using hP) hJ' hns' (hisoC _ (.head _)) hS' F' N' (LCg.Off3.of fun p hp => ⟨by simpa using (off' p hp).1, (off' p hp).2⟩) ⟨Ne.symm hCI, Ne.symm hDI, hCD⟩ fun q hq => ⟨Nat.ne_of_lt (Heap.lt_size (N q (sub q hq)).1), hoff q hq⟩
  · rintro oC' m₁ ys' nw' h tk hJ' hS' hns' F' N' off'
    exact done oC' m₁ ys' nw' h tk hJ' hS' hns' F' N' off'
end
end
section
section
variable {prog : Program} {w : World} {A : Around} {E : Value → Shared → Prop} {s : Shared} {env : Env} {h₀ : Heap} {L : Addr} {m : Str → Option Value}

theorem comp_gen2 {elt iter target : Expr} {ifs : List Expr} {more : List Comprehension} {scope : Scope} {cl : List (Str × Addr)} {pos : Pos} {RR : Value → Addr → Result → Shared → Prop} {it : Value} {wr : List Addr} {n : Nat} {P : Nat → (Str → Option Value) → (Str → Option Value) → Prop} {St : Nat → Heap → Prop} {news : Led} (rest : Addr → Env → Sem Unit) (S : Led → Prop) (J : Nat → List Value → Led → Prop)
    (heq : ∀ (D : Addr) (cenv : Env), compTurn (.ListComp elt (⟨target, iter, ifs, 0⟩ :: more) scope pos) 0 it (.ref D) cenv = (standAt iter.pos >>= fun _ => pyNext it >>= fun r => match r with
      | none => pure (.done .next)
      | some v => letOwnedTupleGo target it v >>= fun _ => assign target cenv v >>= fun _ => rest D cenv >>= fun _ => again (.compLoop (.ListComp elt (⟨target, iter, ifs, 0⟩ :: more) scope pos) 0 it (.ref D) cenv)))
    (hcell : ∀ y ∈ scope.names, y.2 ≠ .cell) (hkind : scope.kind = .function)
    (W : ∀ C, (∀ b o, s.heap.get? b = some o → b ≠ C) → Steps prog w A (compEnvC scope cl C env) target it wr n P St)
    (hIo : ∀ i h, St i h → ∀ b ∈ wr, ∃ o, h.get? b = some o ∧ o.cls ≠ .type "tuple")
    (hSt : ∀ i h h' nw, St i h → (∀ b ∈ wr, ∀ o, h.get? b = some o → h'.get? b = some o) → (∀ b o, h₀.get? b = some o → h'.get? b = some o) → News h₀ L h' nw → S nw → St i h')
    (hS : ∀ nw nw', S nw → (∀ p ∈ nw, Kept news p → p ∈ nw') → S nw')
    (hJ : ∀ i ys nw nw', J i ys nw → (∀ p ∈ nw, Kept news p → p ∈ nw') → J i ys nw')
    (hst : St 0 s.heap) (hst' : ∀ h', (∀ b o, s.heap.get? b = some o → h'.get? b = some o) → St 0 h') (F : Fr h₀ L s.heap m) (N : News h₀ L s.heap news) (hLw : L ∉ wr) (hw0 : ∀ b ∈ wr, h₀.get? b = none) (hoff : ∀ q ∈ news, q.1 ∉ wr) (h0 : J 0 [] news) (hS0 : S news)
    (turn : ∀ i iso oC C D m₁ m₂ ys nw h tk (E' : Value → Shared → Prop) s', (∃ g tk, s' = { s with heap := g, toks := tk }) → i < n → P i m₁ m₂ → iso.map (·.1) = wr → (∀ q ∈ iso, q.2.cls ≠ .type "tuple") → LCg.NsObj oC m₂ → S nw → J i ys nw → Fr h₀ L h m → News h₀ L h (iso ++ (C, oC) :: (D, LCg.lst ys) :: nw) → (∀ p ∈ nw, p.1 ∉ wr ∧ p.1 ≠ C ∧ p.1 ≠ D) → C ≠ D → C ∉ wr → D ∉ wr → (∀ q ∈ news, q.1 ≠ C ∧ q.1 ≠ D) →
      wpAny (model prog w) A (rest D (compEnvC scope cl C env)) (fun _ s₃ => TurnEnd h₀ L m s' iso C D S (fun ys _ nw => J (i + 1) ys nw) s₃) E' { s' with heap := h, toks := tk })
    (done : ∀ C D oC m₁ ys nw h tk, J n ys nw → S nw → LCg.NsObj oC m₁ → Fr h₀ L h m → News h₀ L h ((C, oC) :: (D, LCg.lst ys) :: nw) → (∀ p ∈ nw, p.1 ≠ C ∧ p.1 ≠ D) → C ≠ D → (∀ q ∈ news, q.1 ≠ C ∧ q.1 ≠ D) → RR (.ref D) C (.ok .next) { s with heap := h, toks := tk }) :
    CompAt prog w A env elt (⟨target, iter, ifs, 0⟩ :: more) scope cl pos RR E it s := by
  refine comp_open F N hcell hkind fun C D h₁ tk oC F₁ N₁ hns off₁ hCD old below => ?_
  have hCw : C ∉ wr := fun hm => let ⟨o, e, _⟩ := hIo _ _ hst _ hm; (below _ _ e).1 rfl
  have hDw : D ∉ wr := fun hm => let ⟨o, e, _⟩ := hIo _ _ hst _ hm; (below _ _ e).2 rfl
  have hst₁ : St 0 h₁ := hst' _ old
  have W' := W C fun b o e => (below b o e).1
  refine ⟨fun Q E hQ => W'.self 0 _ _ _ hst₁ hQ, ?_⟩
  refine comp_loop (k := 0) (C := C) (target := target) (p := iter.pos) (rest := rest D (compEnvC scope cl C env)) (wr := wr) (n := n) (news := news) S
    (fun i ys _ nw => J i ys nw) rfl (heq D _) W' hIo hSt hS (fun i ys m₁ nw nw' h hk => hJ _ _ _ _ h hk) hst₁ F₁ N₁ hns h0 hS0 (fun q hq => ⟨hoff q hq, off₁ q hq⟩) hCw hDw hCD hLw hw0 ?_ ?_
  · rintro i iso oC' m₁ m₂ ys nw h tk' E' hi hJ' hP hns' hiso hisoC hS' F' N' off'
    exact turn i iso oC' C D m₁ m₂ ys nw h tk' E' _ ⟨h₁, tk, rfl⟩ hi hP hiso hisoC hns' hS' hJ' F' N' off' hCD hCw hDw off₁
  · rintro oC' m₁ ys nw h tk' hJ' hS' hns' F' N' off'
    exact done C D oC' m₁ ys nw h tk' hJ' hS' hns' F' N' off' hCD off₁

theorem emit_el {elt : Expr} {cenv : Env} {I D C : Addr} {oI : Obj} {news : Led} {ys : List Value} {m₂ : Str → Option Value} {oC : Obj} {S : Led → Prop} {J : List Value → (Str → Option Value) → Led → Prop} {h : Heap} {tk : Nat}
    (hID : I ≠ D) (hCD : C ≠ D) (hz : ys.length ≤ 1000) (hoff : ∀ q ∈ news, q.1 ≠ D) (hns : LCg.NsObj oC m₂) (hSD : ∀ n n', S n → (∀ p ∈ n, Kept news p → p ∈ n') → S n') (hJD : ∀ y m n n', J y m n → (∀ p ∈ n, Kept news p → p ∈ n') → J y m n')
    (hx : wpAny (model prog w) A (eval elt cenv) (ElEnd h₀ L m s I oI C oC D (LCg.lst ys) (fun y nw' => S nw' ∧ J (ys ++ [y]) m₂ nw')) E { s with heap := h, toks := tk }) :
    wpAny (model prog w) A (eval elt cenv >>= fun x => call (.builtin "list.append") [.ref D, x] >>= fun _ => pure PUnit.unit) (fun _ s₃ => TurnEnd h₀ L m s [(I, oI)] C D S J s₃) E { s with heap := h, toks := tk } := by
  refine emit_rest (news := news) (ys := ys) (oC := oC) (m₂ := m₂) (fun q hq => by rw [List.mem_singleton.mp hq]; exact hID) hCD hz hoff hSD hJD ?_
  refine wpAny_mono hx (fun y s₃ h₃ => ?_) fun _ _ e => e
  refine Small.go ?_
  intro gSm hSm
  obtain ⟨h', tk', nw', rfl, F₃, N₃, hI₃, hC₃, hD₃, hS₃, hJ₃⟩ := h₃
  refine hSm ?_
  clear hSm gSm
  exact ⟨h', tk', nw', rfl, F₃, N₃, fun q hq => by rw [List.mem_singleton.mp hq]; exact hI₃, hC₃, hns, hD₃, hS₃, hJ₃⟩

/-- the second clause of a turn -/
theorem nest_rest {elt : Expr} {g0 : Comprehension} {y : Str} {py : Pos} {iter : Expr} {ifs : List Expr} {scope : Scope} {pos : Pos} {D : Addr} {cenv : Env} {K : Shared → Prop}
    (hs : ∀ x, foldedSetIterable iter cenv x = pure x)
    (h : wpAny (model prog w) A (eval iter cenv) (fun xv s₁ => wpAny (model prog w) A (pyIter xv) (fun it s₂ => wpAny (model prog w) A (runOwn (.compStart (.ListComp elt [g0, ⟨.Name y py, iter, ifs, 0⟩] scope pos) 1 it (.ref D) cenv) cenv) (fun _ s₃ => K s₃) E s₂) E s₁) E s) :
    wpAny (model prog w) A (eval iter cenv >>= fun x => standAt iter.pos >>= fun _ => foldedSetIterable iter cenv x >>= fun x => holding [x] (pyIter x) >>= fun it => runOwn (.compStart (.ListComp elt [g0, ⟨.Name y py, iter, ifs, 0⟩] scope pos) 1 it (.ref D) cenv) cenv >>= fun _ => pure PUnit.unit) (fun _ s₃ => K s₃) E s := by
  refine wpAny_bind (wpAny_mono h (fun xv s₁ h₁ => ?_) fun _ _ e => e)
  refine wpAny_bind (wpAny_standAt (wpAny_bind (wpAny_of_eq (hs xv) (wpAny_bind (wpAny_holding (wpAny_mono h₁ (fun it s₂ h₂ => ?_) fun _ _ e => e))))))
  exact wpAny_bind (wpAny_mono h₂ (fun _ s₃ h₃ => wpAny_pure h₃) fun _ _ e => e)

theorem turn_nest (elt target iter it2 : Expr) (y : Str) (py : Pos) (ifs2 : List Expr) (scope : Scope) (pos : Pos) (it acc : Value) (env : Env) :
    compTurn (.ListComp elt [⟨target, iter, [], 0⟩, ⟨.Name y py, it2, ifs2, 0⟩] scope pos) 0 it acc env = (standAt iter.pos >>= fun _ => pyNext it >>= fun r => match r with
      | none => pure (.done .next)
      | some v => letOwnedTupleGo target it v >>= fun _ => assign target env v >>= fun _ => (eval it2 env >>= fun z => standAt it2.pos >>= fun _ => foldedSetIterable it2 env z >>= fun z => holding [z] (pyIter z) >>= fun it' => runOwn (.compStart (.ListComp elt [⟨target, iter, [], 0⟩, ⟨.Name y py, it2, ifs2, 0⟩] scope pos) 1 it' acc env) env >>= fun _ => pure PUnit.unit) >>= fun _ =>
          again (.compLoop (.ListComp elt [⟨target, iter, [], 0⟩, ⟨.Name y py, it2, ifs2, 0⟩] scope pos) 0 it acc env)) := by
  have e : compTurn (.ListComp elt [⟨target, iter, [], 0⟩, ⟨.Name y py, it2, ifs2, 0⟩] scope pos) 0 it acc env = (standAt iter.pos >>= fun _ => pyNext it >>= fun r => match r with
      | none => pure (.done .next)
      | some v => letOwnedTupleGo target it v >>= fun _ => assign target env v >>= fun _ => eval it2 env >>= fun z => standAt it2.pos >>= fun _ => foldedSetIterable it2 env z >>= fun z => holding [z] (pyIter z) >>= fun it' => runOwn (.compStart (.ListComp elt [⟨target, iter, [], 0⟩, ⟨.Name y py, it2, ifs2, 0⟩] scope pos) 1 it' acc env) env >>= fun _ =>
          again (.compLoop (.ListComp elt [⟨target, iter, [], 0⟩, ⟨.Name y py, it2, ifs2, 0⟩] scope pos) 0 it acc env)) := by rfl
  rw [e]
  simp only [bind_assoc, pure_bind]

/-- two clauses, both with a name; the first over a list -/
theorem comp_nest {elt iter it2 : Expr} {x y : Str} {px py : Pos} {ifs2 : List Expr} {scope : Scope} {cl : List (Str × Addr)} {pos : Pos} {RR : Value → Addr → Result → Shared → Prop} {l : Addr} {vs : List Value} {nl : Nat} {news : Led} (J : Nat → List Value → Led → Prop)
    (hh : A.handled = none) (F : Fr h₀ L s.heap m) (N : News h₀ L s.heap news) (hl : (l, listOf vs.toArray nl) ∈ news)
    (hcell : ∀ y ∈ scope.names, y.2 ≠ .cell) (hkind : scope.kind = .function) (hx : scope.names.lookup x = some .local) (h0 : J 0 [] news)
    (hs2 : ∀ cenv x, foldedSetIterable it2 cenv x = pure x)
    (hJ : ∀ i ys nw nw', J i ys nw → (∀ p ∈ nw, Kept news p → p ∈ nw') → J i ys nw')
    (turn : ∀ i v I oI oC C D m₂ ys nw h tk (E' : Value → Shared → Prop) s', (∃ g tk, s' = { s with heap := g, toks := tk }) → vs[i]? = some v → oI.cls ≠ .type "tuple" → LCg.NsObj oC m₂ → m₂ x = some v → (l, listOf vs.toArray nl) ∈ nw → J i ys nw → Fr h₀ L h m → News h₀ L h ((I, oI) :: (C, oC) :: (D, LCg.lst ys) :: nw) → LCg.Off3 I C D nw → ((@Ne Nat I C) ∧ (@Ne Nat I D) ∧ (@Ne Nat C D)) → (∀ q ∈ news, q.1 ≠ I ∧ q.1 ≠ C ∧ q.1 ≠ D) →
      wpAny (model prog w) A (eval it2 (compEnvC scope cl C env)) (fun xv s₁ => wpAny (model prog w) A (pyIter xv) (fun it s₂ => wpAny (model prog w) A (runOwn (.compStart (.ListComp elt [⟨.Name x px, iter, [], 0⟩, ⟨.Name y py, it2, ifs2, 0⟩] scope pos) 1 it (.ref D) (compEnvC scope cl C env)) (compEnvC scope cl C env))
        (fun _ s₃ => TurnEnd h₀ L m s' [(I, oI)] C D (fun n => (l, listOf vs.toArray nl) ∈ n) (fun ys _ nw => J (i + 1) ys nw) s₃) E' s₂) E' s₁) E' { s' with heap := h, toks := tk })
    (done : ∀ C D oC m₁ ys nw h tk s', (∃ g, s' = { s with heap := g }) → J vs.length ys nw → (l, listOf vs.toArray nl) ∈ nw → LCg.NsObj oC m₁ → Fr h₀ L h m → News h₀ L h ((C, oC) :: (D, LCg.lst ys) :: nw) → (∀ p ∈ nw, p.1 ≠ C ∧ p.1 ≠ D) → C ≠ D → (∀ q ∈ news, q.1 ≠ C ∧ q.1 ≠ D) → RR (.ref D) C (.ok .next) { s' with heap := h, toks := tk }) :
    wpAny (model prog w) A (pyIter (.ref l)) (CompAt prog w A env elt [⟨.Name x px, iter, [], 0⟩, ⟨.Name y py, it2, ifs2, 0⟩] scope cl pos RR E) E s := by
  have hls : s.heap.IsList l vs.toArray := News.isList N hl
  first | (refine e0a3 (id hls) ?_; intro ol hol _) | (refine e1a2 (id hls) ?_; intro ol hol _) | (refine e2a1 (id hls) ?_; intro ol hol _) | obtain ⟨ol, hol, _⟩ := id hls
  have hlt : l < s.heap.objs.size := Heap.lt_size hol
  have hne : l ≠ s.heap.objs.size := Nat.ne_of_lt hlt
  refine wpAny_pyIter_list hls ?_
  have W := Walks.list (prog := prog) (w := w) (A := A) hh s.heap.objs.size l hne vs.toArray
  rw [show vs.toArray.size = vs.length from List.size_toArray] at W
  have up : ∀ b o, s.heap.get? b = some o → (s.heap.push { cls := .type "list_iterator", data := .fields #[.ref l, .int 0 0] }).get? b = some o := fun b o e => Heap.get?_push_of_some _ e
  refine comp_gen2 (wr := [s.heap.objs.size]) (n := vs.length) (fun D cenv => eval it2 cenv >>= fun z => standAt it2.pos >>= fun _ => foldedSetIterable it2 cenv z >>= fun z => holding [z] (pyIter z) >>= fun it => runOwn (.compStart (.ListComp elt [⟨.Name x px, iter, [], 0⟩, ⟨.Name y py, it2, ifs2, 0⟩] scope pos) 1 it (.ref D) cenv) cenv >>= fun _ => pure PUnit.unit)
    (fun nw => (l, listOf vs.toArray nl) ∈ nw) J (fun D cenv => turn_nest _ _ _ _ _ _ _ _ _ _ _ _) hcell hkind
    (fun C hC => name_steps W (lookup_relabel_local hx) (by simp [compEnvC, relabel, hkind]) (Ne.symm (hC _ _ (Heap.get?_push_size _ rfl))) (fun hm => by
      rcases List.mem_cons.mp hm with e | hm
      · exact hC _ _ (Heap.get?_push_size _ rfl) e.symm
      · exact hC _ _ (up _ _ hol) (List.mem_singleton.mp hm).symm))
    (fun i h st b hb => ?_) (fun i h h' nw st hk k N' hS' => ?_) (fun nw nw' h hk => hk _ h (.inr ⟨_, hl, rfl⟩)) hJ ⟨⟨_, Heap.get?_push_size _ rfl, rfl, rfl⟩, hls.push _⟩ (fun h' hk => ⟨⟨_, hk _ _ (Heap.get?_push_size _ rfl), rfl, rfl⟩, hls.at fun o e => hk _ _ (up _ _ e)⟩)
    (F.push _) (fun p hp => ⟨up _ _ (N p hp).1, (N p hp).2⟩) (by simpa using Nat.ne_of_lt F.ns.lt) (by simpa using next_is_new F) (fun q hq => by simpa using Nat.ne_of_lt (Heap.lt_size (N q hq).1)) h0 hl ?_ ?_
  · rw [List.mem_singleton.mp hb]
    first | (refine e0a4 (st.1) ?_; intro o ho hc _) | (refine e1a3 (st.1) ?_; intro o ho hc _) | (refine e2a2 (st.1) ?_; intro o ho hc _) | (refine e3a1 (st.1) ?_; intro o ho hc _) | obtain ⟨o, ho, hc, _⟩ := st.1
    exact ⟨o, ho, by rw [hc]; simp⟩
  · exact ⟨st.1.at fun o e => hk _ (by simp) o e, News.isList N' hS'⟩
  · intro i iso oC C D m₁ m₂ ys nw h tk E' s' zq1 hi zq2 hiso hisoC hns hS' hJ' F' N' off' hCD hCw hDw hoff
    (try dsimp only)
    (try k_fold)
    first | (refine e0a3 (zq1) ?_; intro g tk' er2; (try clear zq1); subst er2) | (refine e1a2 (zq1) ?_; intro g tk' er2; (try clear zq1); subst er2) | (refine e2a1 (zq1) ?_; intro g tk' er2; (try clear zq1); subst er2) | obtain ⟨g, tk', rfl⟩ := zq1
    first | (refine e0a3 (zq2) ?_; intro v hP er2; (try clear zq2); subst er2) | (refine e1a2 (zq2) ?_; intro v hP er2; (try clear zq2); subst er2) | (refine e2a1 (zq2) ?_; intro v hP er2; (try clear zq2); subst er2) | obtain ⟨v, hP, rfl⟩ := zq2
    obtain ⟨oI, rfl⟩ : ∃ oI, iso = [(s.heap.objs.size, oI)] := by
      cases iso with
      | nil => simp at hiso
      | cons q r =>
        obtain ⟨a, o⟩ := q
        simp at hiso
        obtain ⟨rfl, rfl⟩ := hiso
        exact ⟨o, rfl⟩
    have hIC : s.heap.objs.size ≠ C := fun e => hCw (by simp [e])
    have hID : s.heap.objs.size ≠ D := fun e => hDw (by simp [e])
    exact nest_rest (hs2 _) (turn i v _ oI oC C D _ ys nw h tk E' _ ⟨g, tk', rfl⟩ (by simpa using hP) (hisoC _ (.head _)) hns (by simp) hS' hJ' F' N' (LCg.Off3.of fun p hp => ⟨by simpa using (off' p hp).1, (off' p hp).2⟩) ⟨hIC, hID, hCD⟩ fun q hq => ⟨Nat.ne_of_lt (Heap.lt_size (N q hq).1), hoff q hq⟩)
  · intro C D oC m₁ ys nw h tk hJ' hS' hns F' N' off hCD hoff
    exact done C D oC m₁ ys nw h tk _ ⟨_, rfl⟩ hJ' hS' hns F' N' off hCD hoff
end
end
section
section
variable {prog : Program} {w : World} {A : Around} {E : Value → Shared → Prop} {s : Shared} {env : Env} {h₀ : Heap} {L : Addr} {m : Str → Option Value}

/-- the inner clause, without a test -/
theorem inner_emit {elt : Expr} {g0 : Comprehension} {y : Str} {py : Pos} {iter : Expr} {scope : Scope} {pos : Pos} {C D l : Addr} {cenv : Env} {vs : List Value} {nl : Nat} {iso nw : Led} {oC : Obj} {ys : List Value} {m₀ : Str → Option Value} {K : Shared → Prop}
    (J : Nat → List Value → (Str → Option Value) → Led → Prop) (hC : cenv.locals = C) (hh : A.handled = none)
    (F : Fr h₀ L s.heap m) (N : News h₀ L s.heap (iso ++ (C, oC) :: (D, LCg.lst ys) :: nw)) (hns : LCg.NsObj oC m₀) (hoff : ∀ p ∈ iso ++ nw, p.1 ≠ C ∧ p.1 ≠ D) (hCD : C ≠ D) (hl : (l, listOf vs.toArray nl) ∈ nw)
    (hy : cenv.kindOf y = some .local) (hp : (cenv.scope.kind == .class || (cenv.scope.kind == .module && cenv.locals != cenv.globals)) = false)
    (h0 : J 0 ys m₀ (iso ++ nw)) (hz : ∀ i ys m₁ n, J i ys m₁ n → ys.length ≤ 1000)
    (hJ : ∀ i ys m₁ n n', J i ys m₁ n → (∀ p ∈ n, Kept (iso ++ nw) p → p ∈ n') → J i ys m₁ n')
    (turn : ∀ i v I oI oC m₁ ys nw' h tk (E' : Value → Shared → Prop) s', (∃ g tk, s' = { s with heap := g, toks := tk }) → vs[i]? = some v → J i ys m₁ nw' → LCg.NsObj oC (fun z => if z = y then some v else m₁ z) → oI.cls ≠ .type "tuple" → (l, listOf vs.toArray nl) ∈ nw' → Fr h₀ L h m → News h₀ L h ((I, oI) :: (C, oC) :: (D, LCg.lst ys) :: nw') →
      LCg.Off3 I C D nw' → ((@Ne Nat I C) ∧ (@Ne Nat I D) ∧ (@Ne Nat C D)) → (∀ q ∈ iso ++ nw, q.1 ≠ I ∧ q.1 ≠ C ∧ q.1 ≠ D) → wpAny (model prog w) A (eval elt cenv) (ElEnd h₀ L m s' I oI C oC D (LCg.lst ys) (fun z n => (l, listOf vs.toArray nl) ∈ n ∧ J (i + 1) (ys ++ [z]) (fun z => if z = y then some v else m₁ z) n)) E' { s' with heap := h, toks := tk })
    (done : ∀ oC m₁ ys nw' h tk, J vs.length ys m₁ nw' → (l, listOf vs.toArray nl) ∈ nw' → LCg.NsObj oC m₁ → Fr h₀ L h m → News h₀ L h ((C, oC) :: (D, LCg.lst ys) :: nw') → (∀ p ∈ nw', p.1 ≠ C ∧ p.1 ≠ D) → K { s with heap := h, toks := tk }) :
    wpAny (model prog w) A (pyIter (.ref l)) (fun it s₁ => wpAny (model prog w) A (runOwn (.compStart (.ListComp elt [g0, ⟨.Name y py, iter, [], 0⟩] scope pos) 1 it (.ref D) cenv) cenv) (fun _ s₂ => K s₂) E s₁) E s := by
  refine inner_list (rest := eval elt cenv >>= fun x => call (.builtin "list.append") [.ref D, x] >>= fun _ => pure PUnit.unit) J hC hh (fun I => by rfl) F N hns hoff hCD hl hy hp h0 hJ ?_ done
  intro i v I oI oC m₁ ys nw' h tk E' s' zq1 hv hJ' hns' hc hl' F' N' off hne hoff'
  (try dsimp only)
  (try k_fold)
  first | (refine e0a3 (zq1) ?_; intro g tk' er2; (try clear zq1); subst er2) | (refine e1a2 (zq1) ?_; intro g tk' er2; (try clear zq1); subst er2) | (refine e2a1 (zq1) ?_; intro g tk' er2; (try clear zq1); subst er2) | obtain ⟨g, tk', rfl⟩ := zq1
  exact emit_el (news := iso ++ nw) hne.2.1 hne.2.2 (hz _ _ _ _ hJ') (fun q hq => (hoff' q hq).2.2) hns' (fun n n' h hk => hk _ h (.inr ⟨_, List.mem_append_right _ hl, rfl⟩)) (fun y m n n' h hk => hJ _ _ _ _ _ h hk) (turn i v I oI oC m₁ ys nw' h tk E' _ ⟨g, tk', rfl⟩ hv hJ' hns' hc hl' F' N' off hne hoff')

theorem turn_test (elt iter c : Expr) (g0 : Comprehension) (target : Expr) (scope : Scope) (pos : Pos) (it acc : Value) (env : Env) :
    compTurn (.ListComp elt [g0, ⟨target, iter, [c], 0⟩] scope pos) 1 it acc env = (standAt iter.pos >>= fun _ => pyNext it >>= fun r => match r with
      | none => pure (.done .next)
      | some v => letOwnedTupleGo target it v >>= fun _ => assign target env v >>= fun _ => (isTrue c env (eval c env) >>= fun ok => if ok = true then (eval elt env >>= fun x => call (.builtin "list.append") [acc, x] >>= fun _ => pure PUnit.unit) else pure PUnit.unit) >>= fun _ =>
          again (.compLoop (.ListComp elt [g0, ⟨target, iter, [c], 0⟩] scope pos) 1 it acc env)) := by
  have e : compTurn (.ListComp elt [g0, ⟨target, iter, [c], 0⟩] scope pos) 1 it acc env = (do
      standAt iter.pos
      match ← pyNext it with
      | none => pure (.done .next)
      | some v =>
        letOwnedTupleGo target it v
        assign target env v
        let mut ok := true
        for c in [c] do
          if ok then ok ← isTrue c env (eval c env)
        if ok then
          (do let _ ← call (.builtin "list.append") [acc, ← eval elt env])
        again (.compLoop (.ListComp elt [g0, ⟨target, iter, [c], 0⟩] scope pos) 1 it acc env)) := by rfl
  rw [e]
  congr 1
  funext _
  congr 1
  funext r
  cases r with
  | none => rfl
  | some v =>
    dsimp only
    congr 1
    funext _
    congr 1
    funext _
    simp only [List.forIn_cons, List.forIn_nil, if_true, bind_assoc, pure_bind]
    congr 1
    funext ok
    cases ok <;> simp

/-- the inner clause, with a test that gives `b` -/
theorem inner_test {elt c : Expr} {g0 : Comprehension} {y : Str} {py : Pos} {iter : Expr} {scope : Scope} {pos : Pos} {C D l : Addr} {cenv : Env} {vs : List Value} {nl : Nat} {iso nw : Led} {oC : Obj} {ys : List Value} {m₀ : Str → Option Value} {K : Shared → Prop}
    (J : Nat → List Value → (Str → Option Value) → Led → Prop) (hC : cenv.locals = C) (hh : A.handled = none)
    (F : Fr h₀ L s.heap m) (N : News h₀ L s.heap (iso ++ (C, oC) :: (D, LCg.lst ys) :: nw)) (hns : LCg.NsObj oC m₀) (hoff : ∀ p ∈ iso ++ nw, p.1 ≠ C ∧ p.1 ≠ D) (hCD : C ≠ D) (hl : (l, listOf vs.toArray nl) ∈ nw)
    (hy : cenv.kindOf y = some .local) (hp : (cenv.scope.kind == .class || (cenv.scope.kind == .module && cenv.locals != cenv.globals)) = false)
    (h0 : J 0 ys m₀ (iso ++ nw)) (hz : ∀ i ys m₁ n, J i ys m₁ n → ys.length ≤ 1000)
    (hJ : ∀ i ys m₁ n n', J i ys m₁ n → (∀ p ∈ n, Kept (iso ++ nw) p → p ∈ n') → J i ys m₁ n')
    (turn : ∀ i v I oI oC m₁ ys nw' h tk (E' : Value → Shared → Prop) s', (∃ g tk, s' = { s with heap := g, toks := tk }) → vs[i]? = some v → J i ys m₁ nw' → LCg.NsObj oC (fun z => if z = y then some v else m₁ z) → oI.cls ≠ .type "tuple" → (l, listOf vs.toArray nl) ∈ nw' → Fr h₀ L h m → News h₀ L h ((I, oI) :: (C, oC) :: (D, LCg.lst ys) :: nw') →
      LCg.Off3 I C D nw' → ((@Ne Nat I C) ∧ (@Ne Nat I D) ∧ (@Ne Nat C D)) → (∀ q ∈ iso ++ nw, q.1 ≠ I ∧ q.1 ≠ C ∧ q.1 ≠ D) → wpAny (model prog w) A (isTrue c cenv (eval c cenv)) (fun ok s₃ => if ok = true then wpAny (model prog w) A (eval elt cenv) (ElEnd h₀ L m s' I oI C oC D (LCg.lst ys) (fun z n => (l, listOf vs.toArray nl) ∈ n ∧ J (i + 1) (ys ++ [z]) (fun z => if z = y then some v else m₁ z) n)) E' s₃
        else ElEnd h₀ L m s' I oI C oC D (LCg.lst ys) (fun _ n => (l, listOf vs.toArray nl) ∈ n ∧ J (i + 1) ys (fun z => if z = y then some v else m₁ z) n) .none s₃) E' { s' with heap := h, toks := tk })
    (done : ∀ oC m₁ ys nw' h tk, J vs.length ys m₁ nw' → (l, listOf vs.toArray nl) ∈ nw' → LCg.NsObj oC m₁ → Fr h₀ L h m → News h₀ L h ((C, oC) :: (D, LCg.lst ys) :: nw') → (∀ p ∈ nw', p.1 ≠ C ∧ p.1 ≠ D) → K { s with heap := h, toks := tk }) :
    wpAny (model prog w) A (pyIter (.ref l)) (fun it s₁ => wpAny (model prog w) A (runOwn (.compStart (.ListComp elt [g0, ⟨.Name y py, iter, [c], 0⟩] scope pos) 1 it (.ref D) cenv) cenv) (fun _ s₂ => K s₂) E s₁) E s := by
  refine inner_list (rest := isTrue c cenv (eval c cenv) >>= fun ok => if ok = true then (eval elt cenv >>= fun x => call (.builtin "list.append") [.ref D, x] >>= fun _ => pure PUnit.unit) else pure PUnit.unit) J hC hh (fun I => turn_test _ _ _ _ _ _ _ _ _ _) F N hns hoff hCD hl hy hp h0 hJ ?_ done
  intro i v I oI oC m₁ ys nw' h tk E' s' zq2 hv hJ' hns' hc hl' F' N' off hne hoff'
  (try dsimp only)
  (try k_fold)
  first | (refine e0a3 (zq2) ?_; intro g tk' er2; (try clear zq2); subst er2) | (refine e1a2 (zq2) ?_; intro g tk' er2; (try clear zq2); subst er2) | (refine e2a1 (zq2) ?_; intro g tk' er2; (try clear zq2); subst er2) | obtain ⟨g, tk', rfl⟩ := zq2
  refine wpAny_bind (wpAny_mono (turn i v I oI oC m₁ ys nw' h tk E' _ ⟨g, tk', rfl⟩ hv hJ' hns' hc hl' F' N' off hne hoff') (fun ok s₃ h₃ => ?_) fun _ _ e => e)
  cases ok with
  | true =>
    rw [if_pos rfl] at h₃ ⊢
    have hsame : ∀ x : Shared, x = { heap := x.heap, gens := x.gens, drawn := x.drawn, toks := x.toks, os := x.os } := fun x => rfl
    refine wpAny_bind (wpAny_mono h₃ (fun z s₄ h₄ => ?_) fun _ _ e => e)
    refine Small.go ?_
    intro gSm hSm
    obtain ⟨h', tk4, nw4, rfl, F4, N4, hI4, hC4, hD4, hl4, hJ4⟩ := h₄
    refine hSm ?_
    clear hSm gSm
    first | (refine e0a5 (pull N4 hD4) ?_; intro n5 N5 off5 sub5 _) | (refine e1a4 (pull N4 hD4) ?_; intro n5 N5 off5 sub5 _) | (refine e2a3 (pull N4 hD4) ?_; intro n5 N5 off5 sub5 _) | (refine e3a2 (pull N4 hD4) ?_; intro n5 N5 off5 sub5 _) | (refine e4a1 (pull N4 hD4) ?_; intro n5 N5 off5 sub5 _) | obtain ⟨n5, N5, off5, sub5, _⟩ := pull N4 hD4
    refine wpAny_bind ?_
    have eL : ∀ zs : List Value, LCg.lst zs = listOf zs.toArray zs.length := fun zs => rfl
    rw [eL] at N5
    refine append_L (vs := ys) (n := ys.length) (news' := (D, listOf (ys ++ [z]).toArray (ys.length + 1)) :: n5) F4 N5 (hz _ _ _ _ hJ') (.head off5) fun h6 F6 N6 => ?_
    have kd : ∀ p ∈ nw4, Kept (iso ++ nw) p → p.1 ≠ D := fun p hp hk => kept_ne N4 hD4 (fun q hq => (hoff' q hq).2.2) hp hk
    refine wpAny_pure ⟨h6, tk4, oC, _, ys ++ [z], _, rfl, F6, N6, fun q hq => ?_, .tail _ (sub5 _ hC4 hne.2.2), hns', ?_, ?_, ?_⟩
    · rw [List.mem_singleton.mp hq]; exact .tail _ (sub5 _ hI4 hne.2.1)
    · have : LCg.lst (ys ++ [z]) = listOf (ys ++ [z]).toArray (ys.length + 1) := by simp [LCg.lst]
      rw [this]; exact .head _
    · exact .tail _ (sub5 _ hl4 (kd _ hl4 (.inr ⟨_, List.mem_append_right _ hl, rfl⟩)))
    · exact hJ _ _ _ _ _ hJ4 fun p hp hk => .tail _ (sub5 p hp (kd p hp hk))
  | false =>
    rw [if_neg (by simp)] at h₃ ⊢
    refine Small.go ?_
    intro gSm hSm
    obtain ⟨h', tk4, nw4, rfl, F4, N4, hI4, hC4, hD4, hl4, hJ4⟩ := h₃
    refine hSm ?_
    clear hSm gSm
    exact wpAny_pure ⟨h', tk4, oC, _, ys, nw4, rfl, F4, N4, fun q hq => by rw [List.mem_singleton.mp hq]; exact hI4, hC4, hns', hD4, hl4, hJ4⟩
end
end
section
section
variable {prog : Program} {w : World} {A : Around} {E : Value → Shared → Prop} {s : Shared} {env : Env} {h₀ : Heap} {L : Addr} {m : Str → Option Value}

theorem enum_steps {cenv : Env} {a b : Str} {pa pb tp : Pos} {kk : Nat} {e it l : Addr} {vs : List Value} (hh : A.handled = none) (hei : e ≠ it) (hle : l ≠ e) (hli : l ≠ it)
    (ha : cenv.kindOf a = some .local) (hb : cenv.kindOf b = some .local) (hp : (cenv.scope.kind == .class || (cenv.scope.kind == .module && cenv.locals != cenv.globals)) = false) (hCe : cenv.locals ≠ e) (hCi : cenv.locals ≠ it) (hCl : cenv.locals ≠ l) :
    Steps prog w A cenv (.Tuple [.Name a pa, .Name b pb] kk tp) (.ref e) [e, it] vs.length (fun i m₁ m₂ => ∃ t x, vs[i]? = some x ∧ m₂ = fun z => if z = b then some x else if z = a then some (.int (i : Nat) t) else m₁ z)
      (fun i h => (∃ old, IsEnum h e it ((i : Nat) : Int) old) ∧ h.IsListIter it l i ∧ h.IsList l vs.toArray) where
  item := fun i s m K1 K0 E hi hst hns hK => by
    have W := WalksT.enumerate (prog := prog) (w := w) (A := A) hh e it l hei hle hli vs.toArray
    refine W.item i _ _ _ (by simpa using hi) hst fun T vals h₁ tk₁ hP hTs hT hM hk₁ => ?_
    first | (refine e0a4 (hP) ?_; intro t x hx er3; (try clear hP); subst er3) | (refine e1a3 (hP) ?_; intro t x hx er3; (try clear hP); subst er3) | (refine e2a2 (hP) ?_; intro t x hx er3; (try clear hP); subst er3) | (refine e3a1 (hP) ?_; intro t x hx er3; (try clear hP); subst er3) | obtain ⟨t, x, hx, rfl⟩ := hP
    refine W.go _ _ _ i T _ _ _ hM fun h₂ hst₂ hk₂ => ?_
    have hTw := W.apart i T h₁ hM
    have hT2 : h₂.IsTuple T #[.int i t, x] := by
      first | (refine e0a3 (hT) ?_; intro o ho r; (try clear hT)) | (refine e1a2 (hT) ?_; intro o ho r; (try clear hT)) | (refine e2a1 (hT) ?_; intro o ho r; (try clear hT)) | obtain ⟨o, ho, r⟩ := hT
      exact ⟨o, hk₂ _ _ hTw ho, r⟩
    have hkk : ∀ c o, c ∉ [e, it] → s.heap.get? c = some o → h₂.get? c = some o := fun c o hc h => hk₂ c o hc (hk₁ c o hc h)
    refine kcp_assign (env := cenv) hh hT2 ha hb hp (hns.at' fun o h => hkk _ o (by simp [hCe, hCi]) h) fun h' tk hn' hk' => ?_
    refine hK h' tk _ ⟨t, x, by simpa using hx, rfl⟩ ?_ hn' fun c o hc hC h => hk' c o hC (hkk c o hc h)
    exact W.frame _ _ _ hst₂ fun c hc o h => hk' c o (fun q => by
      rw [q] at hc
      rcases List.mem_cons.mp hc with h | h
      · exact hCe h
      rcases List.mem_cons.mp h with h | h
      · exact hCi h
      · exact hCl (List.mem_singleton.mp h)) h
  done := fun s K1 K0 E hst hK => by
    have W := WalksT.enumerate (prog := prog) (w := w) (A := A) hh e it l hei hle hli vs.toArray
    rw [show vs.toArray.size = vs.length from List.size_toArray] at W
    exact W.done _ _ _ hst fun h' tk hk => hK h' tk hk
  self := fun i s Q E hst hQ => by
    have W := WalksT.enumerate (prog := prog) (w := w) (A := A) hh e it l hei hle hli vs.toArray
    exact W.self i _ _ _ hst hQ

theorem enum_io {h : Heap} {e it l : Addr} {vs : List Value} {i : Nat} (st : (∃ old, IsEnum h e it ((i : Nat) : Int) old) ∧ h.IsListIter it l i ∧ h.IsList l vs.toArray) : ∀ b ∈ [e, it], ∃ o, h.get? b = some o ∧ o.cls ≠ .type "tuple" := by
  intro b hb
  rcases List.mem_cons.mp hb with rfl | hb
  · obtain ⟨old, h1⟩ := st.1
    exact ⟨_, h1, by simp⟩
  · rw [List.mem_singleton.mp hb]
    first | (refine e0a4 (st.2.1) ?_; intro o ho hc _) | (refine e1a3 (st.2.1) ?_; intro o ho hc _) | (refine e2a2 (st.2.1) ?_; intro o ho hc _) | (refine e3a1 (st.2.1) ?_; intro o ho hc _) | obtain ⟨o, ho, hc, _⟩ := st.2.1
    exact ⟨o, ho, by rw [hc]; simp⟩
theorem enum_st {h h' : Heap} {e it l : Addr} {vs : List Value} {i nl : Nat} {nw : Led} (st : (∃ old, IsEnum h e it ((i : Nat) : Int) old) ∧ h.IsListIter it l i ∧ h.IsList l vs.toArray) (hk : ∀ b ∈ [e, it], ∀ o, h.get? b = some o → h'.get? b = some o) (N : News h₀ L h' nw) (hl : (l, listOf vs.toArray nl) ∈ nw) :
    (∃ old, IsEnum h' e it ((i : Nat) : Int) old) ∧ h'.IsListIter it l i ∧ h'.IsList l vs.toArray := by
  refine Small.go ?_
  intro gSm hSm
  obtain ⟨⟨old, h1⟩, h2, _⟩ := st
  refine hSm ?_
  clear hSm gSm
  exact ⟨⟨old, hk e (by simp) _ h1⟩, h2.at fun o q => hk it (by simp) o q, News.isList N hl⟩

/-- the end, where it is bound to a cell -/

theorem comp_enum {elt iter : Expr} {a b : Str} {pa pb tp : Pos} {kk : Nat} {scope : Scope} {cl : List (Str × Addr)} {pos : Pos} {RR : Value → Addr → Result → Shared → Prop} {l : Addr} {vs : List Value} {nl : Nat} {news : Led} (J : Nat → List Value → Led → Prop)
    (hh : A.handled = none) (F : Fr h₀ L s.heap m) (N : News h₀ L s.heap news) (hl : (l, listOf vs.toArray nl) ∈ news)
    (hcell : ∀ y ∈ scope.names, y.2 ≠ .cell) (hkind : scope.kind = .function) (hxa : scope.names.lookup a = some .local) (hxb : scope.names.lookup b = some .local) (hab : a ≠ b) (hn : vs.length ≤ 1000) (h0 : J 0 [] news)
    (hJ : ∀ i ys nw nw', J i ys nw → (∀ p ∈ nw, Kept news p → p ∈ nw') → J i ys nw')
    (turn : ∀ i x t e it oe oi C oC D m₂ ys nw h tk (E' : Value → Shared → Prop) s', (∃ g tk, s' = { s with heap := g, toks := tk }) → vs[i]? = some x → ys.length = i → LCg.NsObj oC m₂ → m₂ a = some (.int (i : Nat) t) → m₂ b = some x → (l, listOf vs.toArray nl) ∈ nw → J i ys nw → Fr h₀ L h m → News h₀ L h ((e, oe) :: (it, oi) :: (C, oC) :: (D, LCg.lst ys) :: nw) →
      wpAny (model prog w) A (eval elt (compEnvC scope cl C env)) (ElEnd h₀ L m s' C oC C oC D (LCg.lst ys) (fun y nw' => (e, oe) ∈ nw' ∧ (it, oi) ∈ nw' ∧ (l, listOf vs.toArray nl) ∈ nw' ∧ J (i + 1) (ys ++ [y]) nw')) E' { s' with heap := h, toks := tk })
    (done : ∀ C D oC m₁ ys nw h tk s', (∃ g, s' = { s with heap := g }) → ys.length = vs.length → J vs.length ys nw → (l, listOf vs.toArray nl) ∈ nw → LCg.NsObj oC m₁ → Fr h₀ L h m → News h₀ L h ((C, oC) :: (D, LCg.lst ys) :: nw) → (∀ p ∈ nw, p.1 ≠ C ∧ p.1 ≠ D) → C ≠ D → (∀ q ∈ news, q.1 ≠ C ∧ q.1 ≠ D) → RR (.ref D) C (.ok .next) { s' with heap := h, toks := tk }) :
    wpAny (model prog w) A (call (.type "enumerate") [.ref l]) (fun xv s₁ => wpAny (model prog w) A (pyIter xv) (CompAt prog w A env elt [⟨.Tuple [.Name a pa, .Name b pb] kk tp, iter, [], 0⟩] scope cl pos RR E) E s₁) E s := by
  have hls : s.heap.IsList l vs.toArray := News.isList N hl
  first | (refine e0a3 (id hls) ?_; intro ol hol _) | (refine e1a2 (id hls) ?_; intro ol hol _) | (refine e2a1 (id hls) ?_; intro ol hol _) | obtain ⟨ol, hol, _⟩ := id hls
  have hlt : l < s.heap.objs.size := Heap.lt_size hol
  refine call_enumerate_list hls fun h' hE hI hsz hk => ?_
  refine wpAny_pyIter_enum hE ?_
  have hei : s.heap.objs.size + 1 ≠ s.heap.objs.size := Nat.succ_ne_self _
  have hle : l ≠ s.heap.objs.size + 1 := Nat.ne_of_lt (Nat.lt_succ_of_lt hlt)
  have hli : l ≠ s.heap.objs.size := Nat.ne_of_lt hlt
  have F' : Fr h₀ L h' m := F.keeps hk
  have N' : News h₀ L h' news := N.grown hk
  have hst : (∃ old, IsEnum h' (s.heap.objs.size + 1) s.heap.objs.size ((0 : Nat) : Int) old) ∧ h'.IsListIter s.heap.objs.size l 0 ∧ h'.IsList l vs.toArray := ⟨⟨_, hE⟩, hI, hls.at fun o e => hk _ _ e⟩
  first | (refine e0a3 (id hI) ?_; intro oi0 hoi0 _) | (refine e1a2 (id hI) ?_; intro oi0 hoi0 _) | (refine e2a1 (id hI) ?_; intro oi0 hoi0 _) | obtain ⟨oi0, hoi0, _⟩ := id hI
  refine comp_gen (wr := [s.heap.objs.size + 1, s.heap.objs.size]) (n := vs.length) (fun nw => (l, listOf vs.toArray nl) ∈ nw) J (fun D cenv => by rfl) hcell hkind
    (fun C hC => enum_steps hh hei hle hli (lookup_relabel_local hxa) (lookup_relabel_local hxb) (by simp [compEnvC, relabel, hkind]) (Ne.symm (hC _ _ hE)) (Ne.symm (hC _ _ hoi0)) (Ne.symm (hC _ _ (hk _ _ hol)))) hn
    (fun i h st => enum_io st) (fun i h h' nw st hk _ N hl => enum_st st hk N hl) (fun nw nw' h hk => hk _ h (.inr ⟨_, hl, rfl⟩)) hJ hst (fun h2 hk2 => ⟨⟨_, hk2 _ _ hE⟩, hI.at fun o e => hk2 _ _ e, hst.2.2.at fun o e => hk2 _ _ e⟩)
    F' N' (fun hm => by
      rcases List.mem_cons.mp hm with e | hm
      · exact Nat.ne_of_lt (Nat.lt_succ_of_lt F.ns.lt) e
      · exact Nat.ne_of_lt F.ns.lt (List.mem_singleton.mp hm)) (fun b hb => by
      rcases List.mem_cons.mp hb with rfl | hb
      · exact fresh_of F (Nat.le_succ _)
      · rw [List.mem_singleton.mp hb]; exact fresh_of F (Nat.le_refl _)) (fun q hq hm => by
      have := Heap.lt_size (N q hq).1
      rcases List.mem_cons.mp hm with e | hm
      · exact Nat.ne_of_lt (Nat.lt_succ_of_lt this) e
      · exact Nat.ne_of_lt this (List.mem_singleton.mp hm)) h0 hl ?_ ?_
  · intro i iso oC C D m₁ m₂ ys nw h tk E' s' zq1 hi zq2 hyl hiso hisoC hns hS' hJ' F2 N2 off' hCD hCw hDw hoff
    (try dsimp only)
    (try k_fold)
    first | (refine e0a3 (zq1) ?_; intro g tk' er2; (try clear zq1); subst er2) | (refine e1a2 (zq1) ?_; intro g tk' er2; (try clear zq1); subst er2) | (refine e2a1 (zq1) ?_; intro g tk' er2; (try clear zq1); subst er2) | obtain ⟨g, tk', rfl⟩ := zq1
    first | (refine e0a4 (zq2) ?_; intro t x hx er3; (try clear zq2); subst er3) | (refine e1a3 (zq2) ?_; intro t x hx er3; (try clear zq2); subst er3) | (refine e2a2 (zq2) ?_; intro t x hx er3; (try clear zq2); subst er3) | (refine e3a1 (zq2) ?_; intro t x hx er3; (try clear zq2); subst er3) | obtain ⟨t, x, hx, rfl⟩ := zq2
    obtain ⟨oe, oi, rfl⟩ : ∃ oe oi, iso = [(s.heap.objs.size + 1, oe), (s.heap.objs.size, oi)] := by
      match iso, hiso with
      | [p, q], hiso =>
        refine Small.go ?_
        intro gSm hSm
        obtain ⟨a1, b1⟩ := p
        obtain ⟨a2, b2⟩ := q
        refine hSm ?_
        clear hSm gSm
        simp at hiso
        obtain ⟨rfl, rfl⟩ := hiso
        exact ⟨b1, b2, rfl⟩
      | [], hiso => simp at hiso
      | [_], hiso => simp at hiso
      | _ :: _ :: _ :: _, hiso => simp at hiso
    refine wpAny_mono (turn i x t _ _ oe oi C oC D _ ys nw h tk E' _ ⟨g, tk', rfl⟩ hx hyl hns (by simp [hab]) (by simp) hS' hJ' F2 N2) (fun y s₃ h₃ => ?_) fun _ _ e => e
    refine Small.go ?_
    intro gSm hSm
    obtain ⟨h3, tk'', nw', rfl, F₃, N₃, hC₃, _, hD₃, h5, h6, hS₃, hJ₃⟩ := h₃
    refine hSm ?_
    clear hSm gSm
    refine ⟨h3, tk'', nw', rfl, F₃, N₃, fun q hq => ?_, hC₃, hD₃, hS₃, hJ₃⟩
    rcases List.mem_cons.mp hq with rfl | hq
    · exact h5
    · rw [List.mem_singleton.mp hq]; exact h6
  · intro C D oC m₁ ys nw h tk hyl hJ' hS' hns F2 N2 off hCD hoff
    exact done C D oC m₁ ys nw h tk _ ⟨_, rfl⟩ hyl hJ' hS' hns F2 N2 off hCD hoff
end
end
section
section
variable {prog : Program} {w : World} {A : Around} {E : Value → Shared → Prop} {s : Shared} {env : Env} {h₀ : Heap} {L : Addr} {m : Str → Option Value}

theorem iso_two {a b : Addr} {iso : Led} (h : iso.map (·.1) = [a, b]) : ∃ oa ob, iso = [(a, oa), (b, ob)] := by
  match iso, h with
  | [p, q], h =>
    refine Small.go ?_
    intro gSm hSm
    obtain ⟨a1, b1⟩ := p
    obtain ⟨a2, b2⟩ := q
    refine hSm ?_
    clear hSm gSm
    simp at h
    obtain ⟨rfl, rfl⟩ := h
    exact ⟨b1, b2, rfl⟩
  | [], h => simp at h
  | [_], h => simp at h
  | _ :: _ :: _ :: _, h => simp at h

/-- two clauses, the first over an enumerated list -/
theorem comp_enum_nest {elt iter it2 : Expr} {a b y : Str} {pa pb tp py : Pos} {kk : Nat} {ifs2 : List Expr} {scope : Scope} {cl : List (Str × Addr)} {pos : Pos} {RR : Value → Addr → Result → Shared → Prop} {l : Addr} {vs : List Value} {nl : Nat} {news : Led} (J : Nat → List Value → Led → Prop)
    (hh : A.handled = none) (F : Fr h₀ L s.heap m) (N : News h₀ L s.heap news) (hl : (l, listOf vs.toArray nl) ∈ news)
    (hcell : ∀ y ∈ scope.names, y.2 ≠ .cell) (hkind : scope.kind = .function) (hxa : scope.names.lookup a = some .local) (hxb : scope.names.lookup b = some .local) (hab : a ≠ b) (h0 : J 0 [] news)
    (hs2 : ∀ cenv x, foldedSetIterable it2 cenv x = pure x)
    (hJ : ∀ i ys nw nw', J i ys nw → (∀ p ∈ nw, Kept news p → p ∈ nw') → J i ys nw')
    (turn : ∀ i x t e it oe oi C oC D m₂ ys nw h tk (E' : Value → Shared → Prop) s', (∃ g tk, s' = { s with heap := g, toks := tk }) → vs[i]? = some x → LCg.NsObj oC m₂ → m₂ a = some (.int (i : Nat) t) → m₂ b = some x → (l, listOf vs.toArray nl) ∈ nw → J i ys nw → Fr h₀ L h m → News h₀ L h ((e, oe) :: (it, oi) :: (C, oC) :: (D, LCg.lst ys) :: nw) →
      (∀ p ∈ (e, oe) :: (it, oi) :: nw, p.1 ≠ C ∧ p.1 ≠ D) → C ≠ D →
      wpAny (model prog w) A (eval it2 (compEnvC scope cl C env)) (fun xv s₁ => wpAny (model prog w) A (pyIter xv) (fun it' s₂ => wpAny (model prog w) A (runOwn (.compStart (.ListComp elt [⟨.Tuple [.Name a pa, .Name b pb] kk tp, iter, [], 0⟩, ⟨.Name y py, it2, ifs2, 0⟩] scope pos) 1 it' (.ref D) (compEnvC scope cl C env)) (compEnvC scope cl C env))
        (fun _ s₃ => TurnEnd h₀ L m s' [(e, oe), (it, oi)] C D (fun n => (l, listOf vs.toArray nl) ∈ n) (fun ys _ nw => J (i + 1) ys nw) s₃) E' s₂) E' s₁) E' { s' with heap := h, toks := tk })
    (done : ∀ C D oC m₁ ys nw h tk s', (∃ g, s' = { s with heap := g }) → J vs.length ys nw → (l, listOf vs.toArray nl) ∈ nw → LCg.NsObj oC m₁ → Fr h₀ L h m → News h₀ L h ((C, oC) :: (D, LCg.lst ys) :: nw) → (∀ p ∈ nw, p.1 ≠ C ∧ p.1 ≠ D) → C ≠ D → (∀ q ∈ news, q.1 ≠ C ∧ q.1 ≠ D) → RR (.ref D) C (.ok .next) { s' with heap := h, toks := tk }) :
    wpAny (model prog w) A (call (.type "enumerate") [.ref l]) (fun xv s₁ => wpAny (model prog w) A (pyIter xv) (CompAt prog w A env elt [⟨.Tuple [.Name a pa, .Name b pb] kk tp, iter, [], 0⟩, ⟨.Name y py, it2, ifs2, 0⟩] scope cl pos RR E) E s₁) E s := by
  have hls : s.heap.IsList l vs.toArray := News.isList N hl
  first | (refine e0a3 (id hls) ?_; intro ol hol _) | (refine e1a2 (id hls) ?_; intro ol hol _) | (refine e2a1 (id hls) ?_; intro ol hol _) | obtain ⟨ol, hol, _⟩ := id hls
  have hlt : l < s.heap.objs.size := Heap.lt_size hol
  refine call_enumerate_list hls fun h' hE hI hsz hk => ?_
  refine wpAny_pyIter_enum hE ?_
  have hei : s.heap.objs.size + 1 ≠ s.heap.objs.size := Nat.succ_ne_self _
  have hle : l ≠ s.heap.objs.size + 1 := Nat.ne_of_lt (Nat.lt_succ_of_lt hlt)
  have hli : l ≠ s.heap.objs.size := Nat.ne_of_lt hlt
  have F' : Fr h₀ L h' m := F.keeps hk
  have N' : News h₀ L h' news := N.grown hk
  have hst : (∃ old, IsEnum h' (s.heap.objs.size + 1) s.heap.objs.size ((0 : Nat) : Int) old) ∧ h'.IsListIter s.heap.objs.size l 0 ∧ h'.IsList l vs.toArray := ⟨⟨_, hE⟩, hI, hls.at fun o e => hk _ _ e⟩
  first | (refine e0a3 (id hI) ?_; intro oi0 hoi0 _) | (refine e1a2 (id hI) ?_; intro oi0 hoi0 _) | (refine e2a1 (id hI) ?_; intro oi0 hoi0 _) | obtain ⟨oi0, hoi0, _⟩ := id hI
  refine comp_gen2 (wr := [s.heap.objs.size + 1, s.heap.objs.size]) (n := vs.length) (fun D cenv => eval it2 cenv >>= fun z => standAt it2.pos >>= fun _ => foldedSetIterable it2 cenv z >>= fun z => holding [z] (pyIter z) >>= fun it' => runOwn (.compStart (.ListComp elt [⟨.Tuple [.Name a pa, .Name b pb] kk tp, iter, [], 0⟩, ⟨.Name y py, it2, ifs2, 0⟩] scope pos) 1 it' (.ref D) cenv) cenv >>= fun _ => pure PUnit.unit)
    (fun nw => (l, listOf vs.toArray nl) ∈ nw) J (fun D cenv => turn_nest _ _ _ _ _ _ _ _ _ _ _ _) hcell hkind
    (fun C hC => enum_steps hh hei hle hli (lookup_relabel_local hxa) (lookup_relabel_local hxb) (by simp [compEnvC, relabel, hkind]) (Ne.symm (hC _ _ hE)) (Ne.symm (hC _ _ hoi0)) (Ne.symm (hC _ _ (hk _ _ hol))))
    (fun i h st => enum_io st) (fun i h h' nw st hk _ N hl => enum_st st hk N hl) (fun nw nw' h hk => hk _ h (.inr ⟨_, hl, rfl⟩)) hJ hst (fun h2 hk2 => ⟨⟨_, hk2 _ _ hE⟩, hI.at fun o e => hk2 _ _ e, hst.2.2.at fun o e => hk2 _ _ e⟩)
    F' N' (fun hm => by
      rcases List.mem_cons.mp hm with e | hm
      · exact Nat.ne_of_lt (Nat.lt_succ_of_lt F.ns.lt) e
      · exact Nat.ne_of_lt F.ns.lt (List.mem_singleton.mp hm)) (fun b hb => by
      rcases List.mem_cons.mp hb with rfl | hb
      · exact fresh_of F (Nat.le_succ _)
      · rw [List.mem_singleton.mp hb]; exact fresh_of F (Nat.le_refl _)) (fun q hq hm => by
      have := Heap.lt_size (N q hq).1
      rcases List.mem_cons.mp hm with e | hm
      · exact Nat.ne_of_lt (Nat.lt_succ_of_lt this) e
      · exact Nat.ne_of_lt this (List.mem_singleton.mp hm)) h0 hl ?_ ?_
  · intro i iso oC C D m₁ m₂ ys nw h tk E' s' zq1 hi zq2 hiso hisoC hns hS' hJ' F2 N2 off' hCD hCw hDw hoff
    (try dsimp only)
    (try k_fold)
    first | (refine e0a3 (zq1) ?_; intro g tk' er2; (try clear zq1); subst er2) | (refine e1a2 (zq1) ?_; intro g tk' er2; (try clear zq1); subst er2) | (refine e2a1 (zq1) ?_; intro g tk' er2; (try clear zq1); subst er2) | obtain ⟨g, tk', rfl⟩ := zq1
    first | (refine e0a4 (zq2) ?_; intro t x hx er3; (try clear zq2); subst er3) | (refine e1a3 (zq2) ?_; intro t x hx er3; (try clear zq2); subst er3) | (refine e2a2 (zq2) ?_; intro t x hx er3; (try clear zq2); subst er3) | (refine e3a1 (zq2) ?_; intro t x hx er3; (try clear zq2); subst er3) | obtain ⟨t, x, hx, rfl⟩ := zq2
    first | (refine e0a3 (iso_two hiso) ?_; intro oe oi er2; subst er2) | (refine e1a2 (iso_two hiso) ?_; intro oe oi er2; subst er2) | (refine e2a1 (iso_two hiso) ?_; intro oe oi er2; subst er2) | obtain ⟨oe, oi, rfl⟩ := iso_two hiso
    have h1 : s.heap.objs.size + 1 ≠ C := fun e => hCw (by simp [← e])
    have h2 : s.heap.objs.size ≠ C := fun e => hCw (by simp [← e])
    have h3 : s.heap.objs.size + 1 ≠ D := fun e => hDw (by simp [← e])
    have h4 : s.heap.objs.size ≠ D := fun e => hDw (by simp [← e])
    refine nest_rest (hs2 _) (turn i x t _ _ oe oi C oC D _ ys nw h tk E' _ ⟨g, tk', rfl⟩ hx hns (by simp [hab]) (by simp) hS' hJ' F2 N2 (fun p hp => ?_) hCD)
    rcases List.mem_cons.mp hp with rfl | hp
    · exact ⟨h1, h3⟩
    rcases List.mem_cons.mp hp with rfl | hp
    · exact ⟨h2, h4⟩
    · exact (off' p hp).2
  · intro C D oC m₁ ys nw h tk hJ' hS' hns F2 N2 off hCD hoff
    exact done C D oC m₁ ys nw h tk _ ⟨_, rfl⟩ hJ' hS' hns F2 N2 off hCD hoff
end

section
variable {prog : Program} {w : World} {A : Around} {E : Value → Shared → Prop} {s : Shared} {env : Env} {h₀ : Heap} {Q : Flow → Shared → Prop}
def FEnd2 (h₀ : Heap) (L : Addr) (s : Shared) (e : Addr) (oe : Obj) (it : Addr) (oi : Obj) (Jn : (Str → Option Value) → Led → Prop) (Q : Flow → Shared → Prop) (f : Flow) (s₃ : Shared) : Prop :=
  match f with
  | .ret v => Q (.ret v) s₃
  | .brk => Q .next s₃
  | _ => ∃ h' tk m₂ news₂, s₃ = { s with heap := h', toks := tk } ∧ Fr h₀ L h' m₂ ∧ News h₀ L h' news₂ ∧ (e, oe) ∈ news₂ ∧ (it, oi) ∈ news₂ ∧ Jn m₂ news₂

/-- a loop over an enumerated list -/
theorem for_enum {a b : Str} {pa pb tp : Pos} {kk : Nat} {body orelse : List Stmt} {l : Addr} {vs : List Value} {nl : Nat} {m : Str → Option Value} {news : Led} (J : Nat → (Str → Option Value) → Led → Prop)
    (hh : A.handled = none) (F : Fr h₀ env.locals s.heap m) (N : News h₀ env.locals s.heap news) (hl : (l, listOf vs.toArray nl) ∈ news) (hab : a ≠ b)
    (h0 : J 0 m news)
    (hJ : ∀ i m nw nw', J i m nw → (∀ p ∈ nw, ((p.2.cls ≠ .type "enumerate" ∧ p.2.cls ≠ .type "list_iterator") ∨ ∃ q ∈ news, q.1 = p.1) → p ∈ nw') → J i m nw')
    (turn : ∀ i x t m₁ news₁ h tk e oe it oi s', (∃ g, s' = { s with heap := g }) → vs[i]? = some x → (l, listOf vs.toArray nl) ∈ news₁ → J i m₁ news₁ → Fr h₀ env.locals h (fun z => if z = b then some x else if z = a then some (.int (i : Nat) t) else m₁ z) → News h₀ env.locals h ((e, oe) :: (it, oi) :: news₁) → (∀ q ∈ news, q.1 ≠ e ∧ q.1 ≠ it) →
      oe.cls = .type "enumerate" → oi.cls = .type "list_iterator" →
      wpAny (model prog w) A (execs body env) (FEnd2 h₀ env.locals s' e oe it oi (fun m₂ news₂ => (l, listOf vs.toArray nl) ∈ news₂ ∧ J (i + 1) m₂ news₂) Q) E { s with heap := h, toks := tk })
    (done : ∀ m₁ news₁ h tk, J vs.length m₁ news₁ → (l, listOf vs.toArray nl) ∈ news₁ → Fr h₀ env.locals h m₁ → News h₀ env.locals h news₁ → wpAny (model prog w) A (execs orelse env) Q E { s with heap := h, toks := tk })
    (hxa : env.kindOf a = some .local) (hxb : env.kindOf b = some .local) (hp : (env.scope.kind == .class || (env.scope.kind == .module && env.locals != env.globals)) = false)
    (hE : PassesOwn (model prog w) A env E) :
    wpAny (model prog w) A (call (.type "enumerate") [.ref l]) (fun xv s₁ => wpAny (model prog w) A (pyIter xv) (ForAt prog w A env (.Tuple [.Name a pa, .Name b pb] kk tp) body orelse Q E) E s₁) E s := by
  have hls : s.heap.IsList l vs.toArray := News.isList N hl
  first | (refine e0a3 (id hls) ?_; intro ol hol _) | (refine e1a2 (id hls) ?_; intro ol hol _) | (refine e2a1 (id hls) ?_; intro ol hol _) | obtain ⟨ol, hol, _⟩ := id hls
  have hlt : l < s.heap.objs.size := Heap.lt_size hol
  refine call_enumerate_list hls fun h' hE' hI hsz hk => ?_
  refine wpAny_pyIter_enum hE' ?_
  have hei : s.heap.objs.size + 1 ≠ s.heap.objs.size := Nat.succ_ne_self _
  have hle : l ≠ s.heap.objs.size + 1 := Nat.ne_of_lt (Nat.lt_succ_of_lt hlt)
  have hli : l ≠ s.heap.objs.size := Nat.ne_of_lt hlt
  have F' : Fr h₀ env.locals h' m := F.keeps hk
  have N' : News h₀ env.locals h' news := N.grown hk
  have hst : (∃ old, IsEnum h' (s.heap.objs.size + 1) s.heap.objs.size ((0 : Nat) : Int) old) ∧ h'.IsListIter s.heap.objs.size l 0 ∧ h'.IsList l vs.toArray := ⟨⟨_, hE'⟩, hI, hls.at fun o e => hk _ _ e⟩
  have hLs := F.ns.lt
  have hLe : env.locals ≠ s.heap.objs.size + 1 := Nat.ne_of_lt (Nat.lt_succ_of_lt hLs)
  have hLi : env.locals ≠ s.heap.objs.size := Nat.ne_of_lt hLs
  have he0 : h₀.get? (s.heap.objs.size + 1) = none := fresh_of F (Nat.le_succ _)
  have hi0 : h₀.get? s.heap.objs.size = none := fresh_of F (Nat.le_refl _)
  have hLl : env.locals ≠ l := Ne.symm (N _ hl).2.1
  have hof : ∀ q ∈ news, q.1 ≠ s.heap.objs.size + 1 ∧ q.1 ≠ s.heap.objs.size := fun q hq => ⟨Nat.ne_of_lt (Nat.lt_succ_of_lt (Heap.lt_size (N q hq).1)), Nat.ne_of_lt (Heap.lt_size (N q hq).1)⟩
  generalize s.heap.objs.size + 1 = e at *
  generalize s.heap.objs.size = it at *
  have W := enum_steps (prog := prog) (w := w) (A := A) (cenv := env) (a := a) (b := b) (pa := pa) (pb := pb) (tp := tp) (kk := kk) (vs := vs) hh hei hle hli hxa hxb hp hLe hLi hLl
  have cut : ∀ {h₃ : Heap} {oe oi : Obj} {n₃ : Led}, News h₀ env.locals h₃ n₃ → (e, oe) ∈ n₃ → (it, oi) ∈ n₃ → oe.cls = .type "enumerate" → oi.cls = .type "list_iterator" →
      ∃ n₄ : Led, (∀ p ∈ n₄, p ∈ n₃ ∧ p.1 ≠ e ∧ p.1 ≠ it) ∧ (∀ p ∈ n₃, ((p.2.cls ≠ .type "enumerate" ∧ p.2.cls ≠ .type "list_iterator") ∨ ∃ q ∈ news, q.1 = p.1) → p ∈ n₄) := by
    intro h₃ oe oi n₃ N₃ he hi hce hci
    refine ⟨n₃.filter fun p => decide (p.1 ≠ e ∧ p.1 ≠ it), fun p hp => ?_, fun p hp hc => List.mem_filter.mpr ⟨hp, ?_⟩⟩
    · have := List.mem_filter.mp hp
      exact ⟨this.1, by simpa using this.2⟩
    · rcases hc with ⟨h1, h2⟩ | ⟨q, hq, e'⟩
      · have d1 : p.1 ≠ e := apart (o := p.2) N₃ hp he (by rw [hce]; exact h1)
        have d2 : p.1 ≠ it := apart (o := p.2) N₃ hp hi (by rw [hci]; exact h2)
        simp [d1, d2]
      · have := hof q hq
        rw [e'] at this
        simp [this.1, this.2]
  unfold ForAt
  refine codeAny_forLoop_any
    (fun k s' => ∃ h2 tk m' n' i, s' = { s with heap := h2, toks := tk } ∧ ((∃ old, IsEnum h2 e it ((i : Nat) : Int) old) ∧ h2.IsListIter it l i ∧ h2.IsList l vs.toArray) ∧ Fr h₀ env.locals h2 m' ∧ News h₀ env.locals h2 n' ∧ (∀ p ∈ n', p.1 ≠ e ∧ p.1 ≠ it) ∧ (l, listOf vs.toArray nl) ∈ n' ∧ J i m' n' ∧ i ≤ vs.length ∧ k = vs.length + 1 - i) ?_ (vs.length + 1)
    ⟨h', s.toks, m, news, 0, rfl, hst, F', N', hof, hl, h0, Nat.zero_le _, rfl⟩
  intro k s' zq3
  (try dsimp only)
  (try k_fold)
  refine Small.go ?_
  intro gSm hSm
  obtain ⟨h2, tk, m', n', i, rfl, hst', F2, N2, of2, hl2, hJ2, hi, rfl⟩ := zq3
  refine hSm ?_
  clear hSm gSm
  by_cases hlt' : i < vs.length
  · refine wpAny_mono (W.item i _ _ (fun s₃ => wpAny (model prog w) A (execs body env) (fun f s₄ => match f with
          | .next | .cont => ∃ mm, mm < vs.length + 1 - i ∧ ∃ h2 tk m' n' i, s₄ = { s with heap := h2, toks := tk } ∧ ((∃ old, IsEnum h2 e it ((i : Nat) : Int) old) ∧ h2.IsListIter it l i ∧ h2.IsList l vs.toArray) ∧ Fr h₀ env.locals h2 m' ∧ News h₀ env.locals h2 n' ∧ (∀ p ∈ n', p.1 ≠ e ∧ p.1 ≠ it) ∧ (l, listOf vs.toArray nl) ∈ n' ∧ J i m' n' ∧ i ≤ vs.length ∧ mm = vs.length + 1 - i
          | .brk => Q .next s₄
          | .ret v => Q (.ret v) s₄) (notedBy (model prog w) A env fun x s' => cameBackBy (model prog w) A env E x s') s₃) (fun _ => False) _ hlt' hst' F2.ns fun h3 tk3 m3 hP hst3 hn3 hk3 => ?_) (fun r s₁ h₁ => ?_) fun _ _ x => x
    case refine_2 =>
      cases r with
      | none => exact h₁.elim
      | some v => exact h₁
    case refine_1 =>
      first | (refine e0a4 (hP) ?_; intro t x hx er3; (try clear hP); subst er3) | (refine e1a3 (hP) ?_; intro t x hx er3; (try clear hP); subst er3) | (refine e2a2 (hP) ?_; intro t x hx er3; (try clear hP); subst er3) | (refine e3a1 (hP) ?_; intro t x hx er3; (try clear hP); subst er3) | obtain ⟨t, x, hx, rfl⟩ := hP
      refine Small.go ?_
      intro gSm hSm
      obtain ⟨⟨old, he3⟩, hi3, hl3⟩ := id hst3
      refine hSm ?_
      clear hSm gSm
      first | (refine e0a4 (id hi3) ?_; intro oi hoi hci hdi) | (refine e1a3 (id hi3) ?_; intro oi hoi hci hdi) | (refine e2a2 (id hi3) ?_; intro oi hoi hci hdi) | (refine e3a1 (id hi3) ?_; intro oi hoi hci hdi) | obtain ⟨oi, hoi, hci, hdi⟩ := id hi3
      obtain ⟨oe, hoe, hoeq, hoec⟩ : ∃ oe : Obj, h3.get? e = some oe ∧ (∀ h9 : Heap, h9.get? e = some oe → ∃ old, IsEnum h9 e it ((i + 1 : Nat) : Int) old) ∧ oe.cls = .type "enumerate" := ⟨_, he3, fun h9 q => ⟨old, q⟩, rfl⟩
      have F3 : Fr h₀ env.locals h3 (fun z => if z = b then some x else if z = a then some (.int (i : Nat) t) else m' z) := ⟨hn3, fun c o hc => hk3 c o (fun hm => by
        rcases List.mem_cons.mp hm with q | hm
        · rw [q, he0] at hc; cases hc
        · rw [List.mem_singleton.mp hm, hi0] at hc; cases hc) (fun q => by rw [q, Heap.get?_none_of_le F2.above] at hc; cases hc) (F2.keep c o hc), F2.above⟩
      have N3 : News h₀ env.locals h3 ((e, oe) :: (it, oi) :: n') := fun p hp => by
        rcases List.mem_cons.mp hp with rfl | hp
        · exact ⟨hoe, Ne.symm hLe, he0⟩
        rcases List.mem_cons.mp hp with rfl | hp
        · exact ⟨hoi, Ne.symm hLi, hi0⟩
        · exact ⟨hk3 _ _ (by simp [of2 p hp]) (N2 p hp).2.1 (N2 p hp).1, (N2 p hp).2⟩
      refine wpAny_mono (wpAny_passesOwn hE (turn i x t m' n' h3 tk3 e oe it oi _ ⟨h', rfl⟩ hx hl2 hJ2 F3 N3 hof hoec hci)) (fun f s₄ h₄ => ?_) fun _ _ x => x
      have fin : (∃ h' tk m₂ news₂, s₄ = { s with heap := h', toks := tk } ∧ Fr h₀ env.locals h' m₂ ∧ News h₀ env.locals h' news₂ ∧ (e, oe) ∈ news₂ ∧ (it, oi) ∈ news₂ ∧ (l, listOf vs.toArray nl) ∈ news₂ ∧ J (i + 1) m₂ news₂) →
          ∃ mm, mm < vs.length + 1 - i ∧ ∃ h2 tk m' n' i, s₄ = { s with heap := h2, toks := tk } ∧ ((∃ old, IsEnum h2 e it ((i : Nat) : Int) old) ∧ h2.IsListIter it l i ∧ h2.IsList l vs.toArray) ∧ Fr h₀ env.locals h2 m' ∧ News h₀ env.locals h2 n' ∧ (∀ p ∈ n', p.1 ≠ e ∧ p.1 ≠ it) ∧ (l, listOf vs.toArray nl) ∈ n' ∧ J i m' n' ∧ i ≤ vs.length ∧ mm = vs.length + 1 - i := by
        intro zq4
        (try dsimp only)
        (try k_fold)
        refine Small.go ?_
        intro gSm hSm
        obtain ⟨h5, tk5, m5, n5, rfl, F5, N5, a5, b5, l5, J5⟩ := zq4
        refine hSm ?_
        clear hSm gSm
        first | (refine e0a3 (cut N5 a5 b5 hoec hci) ?_; intro n6 sub6 keep6) | (refine e1a2 (cut N5 a5 b5 hoec hci) ?_; intro n6 sub6 keep6) | (refine e2a1 (cut N5 a5 b5 hoec hci) ?_; intro n6 sub6 keep6) | obtain ⟨n6, sub6, keep6⟩ := cut N5 a5 b5 hoec hci
        exact ⟨vs.length + 1 - (i + 1), by (first | lia | omega), h5, tk5, m5, n6, i + 1, rfl, ⟨hoeq _ (N5 _ a5).1, ⟨oi, (N5 _ b5).1, hci, hdi⟩, News.isList N5 l5⟩, F5, fun p hp => N5 p (sub6 p hp).1, fun p hp => (sub6 p hp).2, keep6 _ l5 (.inr ⟨_, hl, rfl⟩), hJ _ _ _ _ J5 keep6, hlt', rfl⟩
      cases f with
      | ret v => exact h₄
      | brk => exact h₄
      | next => exact fin h₄
      | cont => exact fin h₄
  · obtain rfl : i = vs.length := by (first | lia | omega)
    refine wpAny_mono (W.done _ (fun _ => False) (fun s₁ => wpAny (model prog w) A (execs orelse env) (fun f s₃ => Q f s₃) (notedBy (model prog w) A env fun x s' => cameBackBy (model prog w) A env E x s') s₁) _ hst' fun h3 tk3 hk3 => ?_) (fun r s₁ h₁ => ?_) fun _ _ x => x
    case refine_2 =>
      cases r with
      | none => exact h₁
      | some v => exact wpAny_mono h₁ (fun _ s₂ h₂ => wpAny_mono h₂ (fun _ s₃ h₃ => h₃.elim) fun _ _ x => x) fun _ _ x => x
    case refine_1 =>
      have F3 : Fr h₀ env.locals h3 m' := ⟨F2.ns.at' fun o q => hk3 _ o (by simp [hLe, hLi]) q, fun c o hc => hk3 c o (fun hm => by
        rcases List.mem_cons.mp hm with q | hm
        · rw [q, he0] at hc; cases hc
        · rw [List.mem_singleton.mp hm, hi0] at hc; cases hc) (F2.keep c o hc), F2.above⟩
      exact wpAny_passesOwn hE (done m' n' h3 tk3 hJ2 hl2 F3 fun p hp => ⟨hk3 _ _ (by simp [of2 p hp]) (N2 p hp).1, (N2 p hp).2⟩)
end
end
section
section
variable {n : Nat} {key : Nat → Int} {cmp : Nat → Nat → (Bool → Shared → Prop) → Shared → Prop} {s : Shared}

structure Arr (n : Nat) (p : Array Nat) : Prop where
  perm : p.Perm (List.range n).toArray
theorem Arr.size {p : Array Nat} (h : Arr n p) : p.size = n := by have := h.perm.size_eq; simpa using this
theorem Arr.lt {p : Array Nat} (h : Arr n p) {i : Nat} (hi : i < n) : p.getD i 0 < n := by
  have hs := h.size
  have e : p.getD i 0 = p[i] := by simp [Array.getD, show i < p.size by (first | lia | omega)]
  rw [e]
  have : p[i] ∈ (List.range n).toArray := h.perm.mem_iff.mp (Array.getElem_mem _)
  simpa using this
theorem Arr.inj {p : Array Nat} (h : Arr n p) {i j : Nat} (hi : i < n) (hj : j < n) (e : p.getD i 0 = p.getD j 0) : i = j := by
  have hs := h.size
  have hnd : p.toList.Nodup := h.perm.toList.nodup_iff.mpr (by simpa using List.nodup_range)
  have e1 : p.getD i 0 = p.toList[i]'(by simp; (first | lia | omega)) := by simp [Array.getD, show i < p.size by (first | lia | omega)]
  have e2 : p.getD j 0 = p.toList[j]'(by simp; (first | lia | omega)) := by simp [Array.getD, show j < p.size by (first | lia | omega)]
  rw [e1, e2] at e
  exact (List.getElem_inj hnd).mp e

def Kk (key : Nat → Int) (p : Array Nat) (i : Nat) : Int := key (p.getD i 0)
def Upto (key : Nat → Int) (p : Array Nat) (a : Nat) : Prop := ∀ i j, i < j → j < a → Kk key p i < Kk key p j
def Downto (key : Nat → Int) (p : Array Nat) (a : Nat) : Prop := ∀ i j, i < j → j < a → Kk key p j < Kk key p i

variable (hinj : ∀ i j, i < n → j < n → key i = key j → i = j) (hcmp : ∀ i j C, i < n → j < n → C (decide (key i < key j)) s → cmp i j C s)
include hinj hcmp

omit hcmp in
theorem k_ne {p : Array Nat} (hp : Arr n p) {i j : Nat} (hi : i < n) (hj : j < n) (hne : i ≠ j) : Kk key p i ≠ Kk key p j := fun e => hne (hp.inj hi hj (hinj _ _ (hp.lt hi) (hp.lt hj) e))

theorem w_asc {p : Array Nat} (hp : Arr n p) {Q : Nat → Shared → Prop} : ∀ (f a : Nat), 1 ≤ a → a + f = n → Upto key p a → (∀ m, a ≤ m → m ≤ n → Upto key p m → (m < n → Kk key p m < Kk key p (m - 1)) → Q m s) → (kas_asc p f a).kasWp cmp Q s
  | 0, a, ha, haf, hu, hQ => hQ a (Nat.le_refl _) (by (first | lia | omega)) hu (by (first | lia | omega))
  | f + 1, a, ha, haf, hu, hQ => by
    refine hcmp _ _ _ (hp.lt (by (first | lia | omega))) (hp.lt (by (first | lia | omega))) ?_
    show KasT.kasWp cmp (if decide (Kk key p a < Kk key p (a - 1)) = true then _ else _) Q s
    by_cases h : Kk key p a < Kk key p (a - 1)
    · rw [if_pos (by simpa using h)]
      exact hQ a (Nat.le_refl _) (by (first | lia | omega)) hu fun _ => h
    · rw [if_neg (by simpa using h)]
      have hne := k_ne hinj hp (i := a) (j := a - 1) (by (first | lia | omega)) (by (first | lia | omega)) (by (first | lia | omega))
      refine w_asc hp f (a + 1) (by (first | lia | omega)) (by (first | lia | omega)) (fun i j hij hj => ?_) fun m hm => hQ m (by (first | lia | omega))
      by_cases hja : j = a
      · subst hja
        by_cases hia : i = j - 1
        · rw [hia]; (first | lia | omega)
        · have := hu i (j - 1) (by (first | lia | omega)) (by (first | lia | omega)); (first | lia | omega)
      · exact hu i j hij (by (first | lia | omega))

theorem w_desc {p : Array Nat} (hp : Arr n p) {Q : Array Nat × Nat × Nat → Shared → Prop} : ∀ (f a : Nat), 1 ≤ a → a + f = n → Downto key p a → (∀ m, a ≤ m → m ≤ n → Downto key p m → Q (p, m, 0) s) → (kas_desc f p a 0).kasWp cmp Q s
  | 0, a, ha, haf, hu, hQ => hQ a (Nat.le_refl _) (by (first | lia | omega)) hu
  | f + 1, a, ha, haf, hu, hQ => by
    refine hcmp _ _ _ (hp.lt (by (first | lia | omega))) (hp.lt (by (first | lia | omega))) ?_
    have hne := k_ne hinj hp (i := a) (j := a - 1) (by (first | lia | omega)) (by (first | lia | omega)) (by (first | lia | omega))
    show KasT.kasWp cmp (if decide (Kk key p a < Kk key p (a - 1)) = true then _ else _) Q s
    by_cases h : Kk key p a < Kk key p (a - 1)
    · rw [if_pos (by simpa using h), if_neg (by (first | lia | omega))]
      refine w_desc hp f (a + 1) (by (first | lia | omega)) (by (first | lia | omega)) (fun i j hij hj => ?_) fun m hm => hQ m (by (first | lia | omega))
      by_cases hja : j = a
      · subst hja
        by_cases hia : i = j - 1
        · rw [hia]; (first | lia | omega)
        · have := hu i (j - 1) (by (first | lia | omega)) (by (first | lia | omega)); (first | lia | omega)
      · exact hu i j hij (by (first | lia | omega))
    · rw [if_neg (by simpa using h)]
      refine hcmp _ _ _ (hp.lt (by (first | lia | omega))) (hp.lt (by (first | lia | omega))) ?_
      show KasT.kasWp cmp (if decide (Kk key p (a - 1) < Kk key p a) = true then _ else _) Q s
      rw [if_pos (by simp; (first | lia | omega))]
      exact hQ a (Nat.le_refl _) (by (first | lia | omega)) hu

omit hinj hcmp in
theorem getD_get {p : Array Nat} {i : Nat} : p.getD i 0 = (p[i]?).getD 0 := by
  by_cases h : i < p.size <;> simp [Array.getD, h]
omit hinj hcmp in
theorem rev_K {p : Array Nat} (hp : Arr n p) {m : Nat} (hm : m ≤ n) (k : Nat) : Kk key (kas_rev p 0 m) k = if k < m then Kk key p (m - 1 - k) else Kk key p k := by
  have hs := hp.size
  unfold Kk kas_rev
  rw [getD_get, getElem?_mirror_all (by (first | lia | omega))]
  by_cases h : k < m
  · rw [if_pos ⟨by (first | lia | omega), h⟩, if_pos h, getD_get]
    simp
  · rw [if_neg (by (first | lia | omega)), if_neg h, getD_get]
omit hinj hcmp in
theorem rev_arr {p : Array Nat} (hp : Arr n p) (m : Nat) : Arr n (kas_rev p 0 m) := ⟨(mirror_perm _ _ _ _).trans hp.perm⟩
omit hinj hcmp in
theorem bub_arr {p : Array Nat} (hp : Arr n p) (a b : Nat) : Arr n (bubble p a b) := ⟨(bubble_perm _ _ _).trans hp.perm⟩

theorem w_count {Q : Nat × Array Nat → Shared → Prop} {p : Array Nat} (hp : Arr n p) (hn : 2 ≤ n) (hQ : ∀ m p', 1 ≤ m → m ≤ n → Arr n p' → Upto key p' m → Q (m, p') s) : (kas_count n p).kasWp cmp Q s := by
  unfold kas_count
  rw [KasT.kasWp_bind]
  refine w_asc hinj hcmp hp (n - 1) 1 (Nat.le_refl _) (by (first | lia | omega)) (fun i j hij hj => by (first | lia | omega)) fun m hm1 hmn hu hstop => ?_
  by_cases he : m = n
  · subst he
    rw [if_pos (by simp)]
    exact hQ m p hm1 hmn hp hu
  rw [if_neg (by simpa using he)]
  by_cases h1 : m > 1
  · rw [if_pos h1]
    refine hcmp _ _ _ (hp.lt (by (first | lia | omega))) (hp.lt (by (first | lia | omega))) ?_
    have := hu 0 (m - 1) (by (first | lia | omega)) (by (first | lia | omega))
    show KasT.kasWp cmp (if decide (Kk key p 0 < Kk key p (m - 1)) = true then _ else _) Q s
    rw [if_pos (by simpa using this)]
    exact hQ m p hm1 hmn hp hu
  · rw [if_neg h1]
    obtain rfl : m = 1 := by (first | lia | omega)
    have h10 := hstop (by (first | lia | omega))
    unfold kas_descPart
    rw [KasT.kasWp_bind]
    refine w_desc hinj hcmp hp (n - (1 + 1)) (1 + 1) (by (first | lia | omega)) (by (first | lia | omega)) (fun i j hij hj => ?_) fun m hm hmn hd => ?_
    · obtain rfl : i = 0 := by (first | lia | omega)
      obtain rfl : j = 1 := by (first | lia | omega)
      exact h10
    · rw [if_neg (by simp)]
      unfold kas_tail3
      rw [KasT.kasWp_bind]
      have hr := rev_arr hp m
      refine w_asc hinj hcmp hr (n - m) m (by (first | lia | omega)) (by (first | lia | omega)) (fun i j hij hj => ?_) fun m' hm1' hmn' hu' _ => hQ m' _ (by (first | lia | omega)) hmn' hr hu'
      rw [rev_K hp (by (first | lia | omega)), rev_K hp (by (first | lia | omega)), if_pos (by (first | lia | omega)), if_pos hj]
      exact hd _ _ (by (first | lia | omega)) (by (first | lia | omega))

theorem w_place {p : Array Nat} (hp : Arr n p) {k : Nat} (hk : k < n) (hu : Upto key p k) {Q : Nat → Shared → Prop} : ∀ (f l r : Nat), l ≤ r → r ≤ k → r - l ≤ f → (∀ i, i < l → Kk key p i < Kk key p k) → (∀ i, r ≤ i → i < k → Kk key p k < Kk key p i) → (∀ l, l ≤ k → (∀ i, i < l → Kk key p i < Kk key p k) → (∀ i, l ≤ i → i < k → Kk key p k < Kk key p i) → Q l s) → (kas_place p k f l r).kasWp cmp Q s
  | 0, l, r, hlr, hr, hf, h1, h2, hQ => by
    obtain rfl : l = r := by (first | lia | omega)
    exact hQ l hr h1 h2
  | f + 1, l, r, hlr, hr, hf, h1, h2, hQ => by
    unfold kas_place
    by_cases h : l ≥ r
    · rw [if_pos h]
      obtain rfl : l = r := by (first | lia | omega)
      exact hQ l hr h1 h2
    · rw [if_neg h]
      refine hcmp _ _ _ (hp.lt hk) (hp.lt (by (first | lia | omega))) ?_
      have hne := k_ne hinj hp (i := k) (j := (l + r) / 2) (by (first | lia | omega)) (by (first | lia | omega)) (by (first | lia | omega))
      show KasT.kasWp cmp (if decide (Kk key p k < Kk key p ((l + r) / 2)) = true then _ else _) Q s
      by_cases hc : Kk key p k < Kk key p ((l + r) / 2)
      · rw [if_pos (by simpa using hc)]
        refine w_place hp hk hu f l ((l + r) / 2) (by (first | lia | omega)) (by (first | lia | omega)) (by (first | lia | omega)) h1 (fun i hi hik => ?_) hQ
        by_cases e : i = (l + r) / 2
        · rw [e]; exact hc
        · have := hu ((l + r) / 2) i (by (first | lia | omega)) hik; (first | lia | omega)
      · rw [if_neg (by simpa using hc)]
        refine w_place hp hk hu f ((l + r) / 2 + 1) r (by (first | lia | omega)) (by (first | lia | omega)) (by (first | lia | omega)) (fun i hi => ?_) h2 hQ
        by_cases e : i = (l + r) / 2
        · rw [e]; (first | lia | omega)
        · have := hu i ((l + r) / 2) (by (first | lia | omega)) (by (first | lia | omega)); (first | lia | omega)

omit hinj hcmp in
theorem bub_K {p : Array Nat} (hp : Arr n p) {k l : Nat} (hk : k < n) (hl : l ≤ k) (i : Nat) : Kk key (bubble p k (k - l)) i = if i = l then Kk key p k else if l < i ∧ i ≤ k then Kk key p (i - 1) else Kk key p i := by
  have hs := hp.size
  unfold Kk
  rw [getD_get, getElem?_bubble (by (first | lia | omega)) _ (by (first | lia | omega))]
  have e : k - (k - l) = l := by (first | lia | omega)
  rw [e]
  repeat' split
  all_goals rw [getD_get]

theorem w_bin {Q : Array Nat → Shared → Prop} : ∀ (f : Nat) (p : Array Nat) (k : Nat), Arr n p → f + k = n → Upto key p k → (∀ p', Arr n p' → Upto key p' n → Q p' s) → (kas_bin f p k).kasWp cmp Q s
  | 0, p, k, hp, hf, hu, hQ => by
    obtain rfl : k = n := by (first | lia | omega)
    exact hQ p hp hu
  | f + 1, p, k, hp, hf, hu, hQ => by
    unfold kas_bin
    rw [KasT.kasWp_bind]
    refine w_place hinj hcmp hp (by (first | lia | omega)) hu k 0 k (by (first | lia | omega)) (Nat.le_refl _) (by (first | lia | omega)) (fun i hi => by (first | lia | omega)) (fun i hi hik => by (first | lia | omega)) fun l hl h1 h2 => ?_
    refine w_bin f _ (k + 1) (bub_arr hp _ _) (by (first | lia | omega)) (fun i j hij hj => ?_) hQ
    rw [bub_K hp (by (first | lia | omega)) hl, bub_K hp (by (first | lia | omega)) hl]
    by_cases a1 : i = l
    · rw [if_pos a1, if_neg (by (first | lia | omega)), if_pos (by (first | lia | omega))]
      exact h2 _ (by (first | lia | omega)) (by (first | lia | omega))
    · rw [if_neg a1]
      by_cases b1 : j = l
      · rw [if_pos b1, if_neg (by (first | lia | omega))]
        exact h1 i (by (first | lia | omega))
      · rw [if_neg b1]
        by_cases a2 : l < i
        · rw [if_pos (by (first | lia | omega)), if_pos (by (first | lia | omega))]
          exact hu _ _ (by (first | lia | omega)) (by (first | lia | omega))
        · rw [if_neg (by (first | lia | omega))]
          by_cases b2 : l < j
          · rw [if_pos (by (first | lia | omega))]
            exact hu _ _ (by (first | lia | omega)) (by (first | lia | omega))
          · rw [if_neg (by (first | lia | omega))]
            exact hu _ _ (by (first | lia | omega)) (by (first | lia | omega))

/-- the sort, where all keys differ -/
theorem w_sort {Q : Array Nat → Shared → Prop} (hn : 2 ≤ n) (hQ : ∀ p, Arr n p → Upto key p n → Q p s) : (kas_sort n).kasWp cmp Q s := by
  unfold kas_sort
  rw [KasT.kasWp_bind]
  refine w_count hinj hcmp ⟨by rfl⟩ hn fun m p hm hmn hp hu => ?_
  dsimp only
  by_cases h : m < n
  · rw [if_pos h]
    have e : max m 1 = m := by (first | lia | omega)
    rw [e]
    exact w_bin hinj hcmp (n - m) p m hp (by (first | lia | omega)) hu hQ
  · rw [if_neg h]
    obtain rfl : m = n := by (first | lia | omega)
    exact hQ p hp hu
end
end
section
set_option maxRecDepth 100000
section
variable {prog : Program} {w : World} {A : Around} {E : Value → Shared → Prop} {s : Shared} {h₀ : Heap} {L l : Addr} {m : Str → Option Value} {news : Led}

/-- one item is in order -/
theorem sort_one {a : Addr} {v : Value} {n : Nat} {P : PySem.Fin → Shared → Prop} (F : Fr h₀ L s.heap m) (N : News h₀ L s.heap news) (ho : s.heap.get? a = some (seqObj "list" [v].toArray n)) (haL : a ≠ L) (ha0 : h₀.get? a = none) (hna : ∀ p ∈ news, p.1 ≠ a)
    (h : ∀ c h', Fr h₀ L h' m → News h₀ L h' ((a, seqObj "list" [v].toArray c) :: news) → P (.done (.ret .none)) { s with heap := h' }) :
    wpAny (model prog w) A (Builtin.«list.sort» ⟨[.ref a], []⟩) P E s := by
  have ha : a < s.heap.objs.size := Heap.lt_size ho
  have s1 := Heap.SameBut.update s.heap a (Obj.mapSeq fun _ => (#[] : Array Value))
  obtain ⟨e1, ho1⟩ : ∃ e1, (s.heap.update a (Obj.mapSeq fun _ => (#[] : Array Value))).get? a = some (seqObj "list" #[] e1) := ⟨_, get?_update_seq ho fun _ => #[]⟩
  rw [list_sort_plain]
  refine wpAny_bind (listItems_at ho rfl ?_)
  refine wpAny_bind (listUpdate_at ho rfl ?_ (by simp [sizeLine_eq]) (Nat.zero_le _))
  refine wpAny_bind (seqEpoch_at ho1 rfl ?_)
  refine wpAny_bind (wpAny_newTuple ?_ (by show 1 ≤ _; rw [sizeLine_eq]; (first | lia | omega)))
  refine wpAny_bind (wpAny_newList ?_ (Nat.zero_le _))
  refine wpAny_holding ?_
  dsimp only
  have hn2 : [v].toArray.size < 2 := by simp
  rw [if_pos hn2, if_pos hn2]
  refine wpAny_bind (wpAny_pure ?_)
  rw [StateT.run_pure]
  refine wpAny_bind (wpAny_pure ?_)
  dsimp only
  have up2 : ∀ b x, (s.heap.update a (Obj.mapSeq fun _ => (#[] : Array Value))).get? b = some x → (((s.heap.update a (Obj.mapSeq fun _ => (#[] : Array Value))).push (seqObj "tuple" [v].toArray 0)).push (seqObj "list" #[] 0)).get? b = some x := fun b x e => Heap.get?_push_of_some _ (Heap.get?_push_of_some _ e)
  have ho2 := up2 _ _ ho1
  have F2 : Fr h₀ L (((s.heap.update a (Obj.mapSeq fun _ => (#[] : Array Value))).push (seqObj "tuple" [v].toArray 0)).push (seqObj "list" #[] 0)) m := ((kas_fr F s1 haL ha0).push _).push _
  have N2 : News h₀ L (((s.heap.update a (Obj.mapSeq fun _ => (#[] : Array Value))).push (seqObj "tuple" [v].toArray 0)).push (seqObj "list" #[] 0)) news := (kas_news N s1 hna).grown up2
  refine wpAny_bind (seqEpoch_at ho2 rfl ?_)
  have s2 := Heap.SameBut.update (((s.heap.update a (Obj.mapSeq fun _ => (#[] : Array Value))).push (seqObj "tuple" [v].toArray 0)).push (seqObj "list" #[] 0)) a (Obj.mapSeq fun _ => [v].toArray)
  obtain ⟨c2, hc2⟩ : ∃ c2, ((((s.heap.update a (Obj.mapSeq fun _ => (#[] : Array Value))).push (seqObj "tuple" [v].toArray 0)).push (seqObj "list" #[] 0)).update a (Obj.mapSeq fun _ => [v].toArray)).get? a = some (seqObj "list" [v].toArray c2) := ⟨_, get?_update_seq ho2 fun _ => [v].toArray⟩
  have eo : (arrOf (SortSt.mk' general' ([v].toArray.zip [v].toArray) #[] 7 none)).map (fun x => x.2) = [v].toArray := by
    show (([v].toArray.zip [v].toArray)).map (fun x => x.2) = _
    simp
  rw [eo]
  refine wpAny_bind (listUpdate_at ho2 rfl ?_ (Nat.zero_le _) (by show 1 ≤ _; rw [sizeLine_eq]; (first | lia | omega)))
  show wpAny _ _ (if (e1 != e1) = true then _ else _) _ _ _
  rw [bne_self_eq_false]
  simp only [Bool.false_eq_true, if_false]
  refine wpAny_pure (h c2 _ (kas_fr F2 s2 haL ha0) fun p hp => ?_)
  rcases List.mem_cons.mp hp with rfl | hp
  · exact ⟨hc2, haL, ha0⟩
  · exact kas_news N2 s2 hna p hp

theorem sorted1_L {v : Value} {n : Nat} {Q : Value → Shared → Prop} (F : Fr h₀ L s.heap m) (N : News h₀ L s.heap news) (hm : (l, W.listOf [v].toArray n) ∈ news)
    (h : ∀ D h' c, Fr h₀ L h' m → News h₀ L h' ((D, W.listOf [v].toArray c) :: news) → (∀ q ∈ news, q.1 < D) → Q (.ref D) { s with heap := h' }) :
    wpAny (model prog w) A (call (.builtin "sorted") [.ref l]) Q E s := by
  have hl := News.isList N hm
  refine Calls.call_function_entry kind_sorted plain_sorted entry_sorted (args_sorted1 _) ?_
  unfold Builtin.«sorted»
  refine wpAny_bind (m := checkCount "sorted" 1 1 _) (wpAny_pure ?_)
  refine wpAny_bind (collect_list hl ?_ (by simp [sizeLine_eq]))
  refine wpAny_bind (wpAny_newList ?_ (by simp [sizeLine_eq]))
  generalize hH : (s.heap.push (seqObj "list" #[] 0)).update s.heap.objs.size (Obj.mapSeq (· ++ [v].toArray)) = H
  have hsz : H.objs.size = s.heap.objs.size + 1 := by rw [← hH, Heap.size_update, size_push']
  have hoL : (H.push (seqObj "list" [v].toArray 0)).get? (s.heap.objs.size + 1) = some (seqObj "list" [v].toArray 0) := by rw [← hsz]; exact Heap.get?_push_size _ rfl
  have keep : ∀ b o, s.heap.get? b = some o → (H.push (seqObj "list" [v].toArray 0)).get? b = some o := fun b o q => by
    have hlt : b < s.heap.objs.size := Heap.lt_size q
    rw [Heap.get?_push_ne _ _ _ (by rw [hsz]; exact Nat.ne_of_lt (Nat.lt_succ_of_lt hlt)), ← hH, Heap.get?_update_ne _ _ _ _ (Nat.ne_of_lt hlt), Heap.get?_push_ne _ _ _ (Nat.ne_of_lt hlt)]
    exact q
  have hL : L < s.heap.objs.size := F.ns.lt
  show wpAny _ _ _ _ _ { s with heap := H.push (seqObj "list" [v].toArray 0) }
  rw [hsz]
  refine wpAny_bind (wpAny_holding (wpAny_call_entry slot_list_sort ⟨_, hoL, rfl⟩ entry_list_sort ?body (args_list_sort _)))
  case body =>
    refine sort_one (s := { s with heap := H.push (seqObj "list" [v].toArray 0) }) (F.kept keep) (N.grown keep) hoL (Nat.ne_of_gt (Nat.lt_succ_of_lt hL)) (Heap.get?_none_of_le (Nat.le_trans F.above (Nat.le_succ_of_le (Nat.le_of_lt hL))))
      (fun p hp => Nat.ne_of_lt (Nat.lt_succ_of_lt (Heap.lt_size (N p hp).1))) fun c h' F' N' => ?_
    exact ⟨_, rfl, wpAny_pure ⟨_, rfl, h _ h' c F' N' fun q hq => Nat.lt_succ_of_lt (Heap.lt_size (N q hq).1)⟩⟩
end
end
section
set_option maxRecDepth 100000
section
variable {prog : Program} {w : World} {A : Around} {E : Value → Shared → Prop} {s : Shared} {h₀ : Heap} {L l : Addr} {m : Str → Option Value} {news : Led}

def lexK (y : Int × Int) : Int := y.1 * 1000 + y.2

theorem its_tups {news : Led} {h : Heap} (N : News h₀ L h news) {vs : List Value} {xs : List (Int × Int)} (hI : Its news vs xs) : ∃ fs : List Value, KatTups h vs fs ∧ fs.length = xs.length ∧ ∀ v ∈ fs, ∃ n t, v = Value.int n t := by
  induction hI with
  | nil => exact ⟨[], .nil, rfl, fun v hv => (List.not_mem_nil hv).elim⟩
  | @cons t v p k u vs xs hm _ ih =>
    first | (refine e0a4 (ih) ?_; intro fs h1 h2 h3; (try clear ih)) | (refine e1a3 (ih) ?_; intro fs h1 h2 h3; (try clear ih)) | (refine e2a2 (ih) ?_; intro fs h1 h2 h3; (try clear ih)) | (refine e3a1 (ih) ?_; intro fs h1 h2 h3; (try clear ih)) | obtain ⟨fs, h1, h2, h3⟩ := ih
    refine ⟨.int v k :: fs, KatTups.cons (N _ hm).1 rfl rfl rfl h1, by simp [h2], fun v' hv => ?_⟩
    rcases List.mem_cons.mp hv with rfl | hv
    · exact ⟨_, _, rfl⟩
    · exact h3 v' hv

theorem looks_int {M : Model} {h : Heap} {n : Int} {t : Tok} : Looks M h (typeOf (.int n t)) (.type "int") := Looks.of_pure rfl

theorem ask_pair {vs : List Value} {xs : List (Int × Int)} (N : News h₀ L s.heap news) (hI : Its news vs xs) (hp : ∀ y ∈ xs, 0 ≤ y.2 ∧ y.2 < 1000) {i j : Nat} (hi : i < xs.length) (hj : j < xs.length) {C : Bool → Shared → Prop} (h : C (decide (lexK xs[i] < lexK xs[j])) s) :
    kas_ask prog w A (tuples' true) vs i j C s := by
  first | (refine e0a5 (hI.get i _ (List.getElem?_eq_getElem hi)) ?_; intro ti ki ui hvi hmi) | (refine e1a4 (hI.get i _ (List.getElem?_eq_getElem hi)) ?_; intro ti ki ui hvi hmi) | (refine e2a3 (hI.get i _ (List.getElem?_eq_getElem hi)) ?_; intro ti ki ui hvi hmi) | (refine e3a2 (hI.get i _ (List.getElem?_eq_getElem hi)) ?_; intro ti ki ui hvi hmi) | (refine e4a1 (hI.get i _ (List.getElem?_eq_getElem hi)) ?_; intro ti ki ui hvi hmi) | obtain ⟨ti, ki, ui, hvi, hmi⟩ := hI.get i _ (List.getElem?_eq_getElem hi)
  first | (refine e0a5 (hI.get j _ (List.getElem?_eq_getElem hj)) ?_; intro tj kj uj hvj hmj) | (refine e1a4 (hI.get j _ (List.getElem?_eq_getElem hj)) ?_; intro tj kj uj hvj hmj) | (refine e2a3 (hI.get j _ (List.getElem?_eq_getElem hj)) ?_; intro tj kj uj hvj hmj) | (refine e3a2 (hI.get j _ (List.getElem?_eq_getElem hj)) ?_; intro tj kj uj hvj hmj) | (refine e4a1 (hI.get j _ (List.getElem?_eq_getElem hj)) ?_; intro tj kj uj hvj hmj) | obtain ⟨tj, kj, uj, hvj, hmj⟩ := hI.get j _ (List.getElem?_eq_getElem hj)
  have b1 := hp xs[i] (List.getElem_mem hi)
  have b2 := hp xs[j] (List.getElem_mem hj)
  unfold kas_ask
  have e1 : vs.getD i Value.none = .ref ti := by simp [hvi]
  have e2 : vs.getD j Value.none = .ref tj := by simp [hvj]
  rw [e1, e2]
  refine kat_lt (N _ hmi).1 rfl (N _ hmj).1 rfl ?_
  refine kat_cons (wpAny_eqBool_int ?_)
  by_cases hv : xs[i].1 = xs[j].1
  · rw [show (xs[i].1 == xs[j].1) = true by simpa using hv]
    refine kat_yes ?_
    refine kat_cons (wpAny_eqBool_int ?_)
    by_cases hq : xs[i].2 = xs[j].2
    · rw [show (xs[i].2 == xs[j].2) = true by simpa using hq]
      refine kat_yes (kat_nil ?_)
      have : ¬ lexK xs[i] < lexK xs[j] := by unfold lexK; (first | lia | omega)
      rw [decide_eq_false this] at h
      exact h
    · rw [show (xs[i].2 == xs[j].2) = false by simpa using hq]
      refine kat_no (kat_one _ _ (lt_int ?_))
      have : decide (xs[i].2 < xs[j].2) = decide (lexK xs[i] < lexK xs[j]) := by
        unfold lexK
        congr 1
        exact propext ⟨fun h => by (first | lia | omega), fun h => by (first | lia | omega)⟩
      show C _ s
      rw [this]; exact h
  · rw [show (xs[i].1 == xs[j].1) = false by simpa using hv]
    refine kat_no (oneLt_int ?_)
    have : decide (xs[i].1 < xs[j].1) = decide (lexK xs[i] < lexK xs[j]) := by
      unfold lexK
      congr 1
      exact propext ⟨fun h => by (first | lia | omega), fun h => by (first | lia | omega)⟩
    rw [this]; exact h

theorem its_pick {vs : List Value} {xs : List (Int × Int)} (hI : Its news vs xs) : ∀ (l : List Nat), (∀ i ∈ l, i < xs.length) → Its news (l.map fun i => vs.getD i Value.none) (l.map fun i => xs.getD i (0, 0))
  | [], _ => .nil
  | i :: l, h => by
    have hi := h i (.head _)
    first | (refine e0a5 (hI.get i _ (List.getElem?_eq_getElem hi)) ?_; intro ti ki ui hvi hmi) | (refine e1a4 (hI.get i _ (List.getElem?_eq_getElem hi)) ?_; intro ti ki ui hvi hmi) | (refine e2a3 (hI.get i _ (List.getElem?_eq_getElem hi)) ?_; intro ti ki ui hvi hmi) | (refine e3a2 (hI.get i _ (List.getElem?_eq_getElem hi)) ?_; intro ti ki ui hvi hmi) | (refine e4a1 (hI.get i _ (List.getElem?_eq_getElem hi)) ?_; intro ti ki ui hvi hmi) | obtain ⟨ti, ki, ui, hvi, hmi⟩ := hI.get i _ (List.getElem?_eq_getElem hi)
    have e1 : vs.getD i Value.none = .ref ti := by simp [hvi]
    have e2 : xs.getD i (0, 0) = xs[i] := by simp [hi]
    rw [List.map_cons, List.map_cons, e1, e2]
    exact .cons hmi (its_pick hI l fun j hj => h j (.tail _ hj))

theorem pick_all {α : Type} (xs : List α) (d : α) : (List.range xs.length).map (fun i => xs.getD i d) = xs := by
  apply List.ext_getElem
  · simp
  · intro i h1 h2
    simp at h1
    simp [h1]

theorem sorted_pairs {vs : List Value} {xs : List (Int × Int)} {n : Nat} {Q : Value → Shared → Prop} (F : Fr h₀ L s.heap m) (N : News h₀ L s.heap news) (hm : (l, W.listOf vs.toArray n) ∈ news) (hI : Its news vs xs) (h1 : 1 ≤ xs.length) (h64 : xs.length < 64)
    (hp : ∀ y ∈ xs, 0 ≤ y.2 ∧ y.2 < 1000) (hd : xs.Pairwise (fun y z => lexK y ≠ lexK z))
    (h : ∀ D h' c vs' ys, Fr h₀ L h' m → News h₀ L h' ((D, W.listOf (List.toArray vs') c) :: news) → (∀ q ∈ news, q.1 < D) → Its news vs' ys → ys.Perm xs → ys.Pairwise (fun y z => lexK y < lexK z) → Q (.ref D) { s with heap := h' }) :
    wpAny (model prog w) A (call (.builtin "sorted") [.ref l]) Q E s := by
  by_cases h2 : 2 ≤ xs.length
  case neg =>
    obtain ⟨y, rfl⟩ : ∃ y, xs = [y] := by
      match xs, h1, h2 with
      | [y], _, _ => exact ⟨y, rfl⟩
      | _ :: _ :: _, _, h2 => simp at h2
    cases hI with
    | cons hm1 hI' =>
      cases hI'
      exact sorted1_L F N hm fun D h' c F' N' hlt => h D h' c _ _ F' N' hlt (.cons hm1 .nil) (.refl _) (List.pairwise_singleton _ _)
  have hvl := hI.length
  refine kat_sorted F N (News.isList N hm) (by (first | lia | omega)) (by (first | lia | omega)) fun D e1 h' F' N' hlt => ?_
  have N1 : News h₀ L h' news := fun p hp => N' p (.tail _ hp)
  first | (refine e0a4 (its_tups N1 hI) ?_; intro fs hf1 hf2 hf3) | (refine e1a3 (its_tups N1 hI) ?_; intro fs hf1 hf2 hf3) | (refine e2a2 (its_tups N1 hI) ?_; intro fs hf1 hf2 hf3) | (refine e3a1 (its_tups N1 hI) ?_; intro fs hf1 hf2 hf3) | obtain ⟨fs, hf1, hf2, hf3⟩ := its_tups N1 hI
  refine kat_kind hf1 (by (first | lia | omega)) (T := .type "int") (fun v hv => by obtain ⟨a, t, rfl⟩ := hf3 v hv; exact looks_int) (by rfl) ?_
  have eb : ((Value.type "int" != Value.type "tuple") : Bool) = true := by decide
  rw [eb]
  rw [hvl]
  refine w_sort (key := fun i => lexK (xs.getD i (0, 0))) (fun i j hi hj e => ?_) (fun i j C hi hj hC => ?_) h2 fun p hp' hu => ?_
  · have e1 : xs.getD i (0, 0) = xs[i] := by simp [hi]
    have e2 : xs.getD j (0, 0) = xs[j] := by simp [hj]
    rw [e1, e2] at e
    rcases Nat.lt_trichotomy i j with hij | hij | hij
    · exact absurd e (List.pairwise_iff_getElem.mp hd i j hi hj hij)
    · exact hij
    · exact absurd e.symm (List.pairwise_iff_getElem.mp hd j i hj hi hij)
  · refine ask_pair N1 hI hp hi hj ?_
    have e1 : xs.getD i (0, 0) = xs[i] := by simp [hi]
    have e2 : xs.getD j (0, 0) = xs[j] := by simp [hj]
    rw [e1, e2] at hC
    exact hC
  · refine KasFin.intro (g := fun o => (D, o) :: news) F' N' (.head fun q hq => Nat.ne_of_lt (hlt q hq)) fun h2 c F2 N2 => ?_
    have hps := hp'.size
    have hlt' : ∀ i ∈ p.toList, i < xs.length := fun i hi => by
      have : i ∈ (List.range xs.length).toArray := hp'.perm.mem_iff.mp (by simpa using hi)
      simpa using this
    refine h D h2 c _ (p.toList.map fun i => xs.getD i (0, 0)) F2 N2 hlt (its_pick hI _ hlt') ?_ ?_
    · have := (hp'.perm.toList.map fun i => xs.getD i (0, 0))
      rw [List.toList_toArray, pick_all] at this
      exact this
    · rw [List.pairwise_map, List.pairwise_iff_getElem]
      intro i j hi hj hij
      have := hu i j hij (by simpa [hps] using hj)
      unfold Kk at this
      have hi' : i < p.size := by simpa using hi
      have hj' : j < p.size := by simpa using hj
      have e1 : p.getD i 0 = p.toList[i] := by simp [Array.getD, hi']
      have e2 : p.getD j 0 = p.toList[j] := by simp [Array.getD, hj']
      rw [e1, e2] at this
      exact this
end
end
section
set_option maxRecDepth 100000
section
variable {prog : Program} {w : World} {A : Around} {E : Value → Shared → Prop} {s : Shared} {h₀ : Heap} {L l : Addr} {m : Str → Option Value} {news : Led}

theorem its_dat {vs : List Value} {xs : List (Int × Int)} (hI : Its news vs xs) : DatAll news vs (xs.map fun y => W.Dat.tuple [.int y.1, .int y.2]) := by
  induction hI with
  | nil => exact .nil
  | cons hm _ ih => exact .cons (.tuple (vs := [.int _ _, .int _ _]) hm (.cons (.int _ _) (.cons (.int _ _) .nil))) ih

theorem ne_pairs {a b : Addr} {vs ws : List Value} {na nb : Nat} {xs ys : List (Int × Int)} {Q : Value → Shared → Prop} (N : News h₀ L s.heap news) (ha : (a, W.listOf vs.toArray na) ∈ news) (hb : (b, W.listOf ws.toArray nb) ∈ news) (hI : Its news vs xs) (hK : Its news ws ys) (e : xs = ys) (hu : A.units + 64 < cLine)
    (h : Q (.bool false) s) : wpAny (model prog w) A (compareOp .NotEq (.ref a) (.ref b)) Q E s := by
  subst e
  have ok : ∀ d ∈ xs.map fun y => W.Dat.tuple [.int y.1, .int y.2], kqdOk 8 d = true := fun d hd => by
    first | (refine e0a3 (List.mem_map.mp hd) ?_; intro y _ er2; subst er2) | (refine e1a2 (List.mem_map.mp hd) ?_; intro y _ er2; subst er2) | (refine e2a1 (List.mem_map.mp hd) ?_; intro y _ er2; subst er2) | obtain ⟨y, _, rfl⟩ := List.mem_map.mp hd
    rfl
  refine kqd_ne N ha rfl rfl (its_dat hI) (fun _ hp => hp) hb rfl rfl (its_dat hK) (fun _ hp => hp) ok ok hu ?_
  simpa using h

theorem pick_upto {vs : List Value} {y : Int} (h : 0 ≤ y) : (slicePick vs.toArray none (some y) none).toList = vs.take y.toNat := by
  have e : sliceBounds none (some y) none vs.toArray.size = (((0 : Nat) : Int), ((min y.toNat vs.toArray.size : Nat) : Int), 1) := by
    simp only [sliceBounds, Option.getD_none, show (1 : Int) > 0 by decide, if_true, if_neg (show ¬ (y < 0) by (first | lia | omega))]
    congr 1
    congr 1
    (first | lia | omega)
  rw [kmk_pick_nat _ e]
  show (vs.drop 0).take (min y.toNat vs.toArray.size - 0) = _
  rw [List.drop_zero, Nat.sub_zero, List.size_toArray, kmk_take_min]

theorem pick_run2 {vs : List Value} {x y : Int} (h : 0 ≤ x) (h2 : 0 ≤ y) (h3 : y ≤ vs.length) : (slicePick vs.toArray (some x) (some y) none).toList = (vs.drop x.toNat).take (y.toNat - x.toNat) := by
  have e : sliceBounds (some x) (some y) none vs.toArray.size = (((min x.toNat vs.toArray.size : Nat) : Int), ((min y.toNat vs.toArray.size : Nat) : Int), 1) := by
    simp only [sliceBounds, Option.getD_none, show (1 : Int) > 0 by decide, if_true, if_neg (show ¬ (x < 0) by (first | lia | omega)), if_neg (show ¬ (y < 0) by (first | lia | omega))]
    congr 1
    · (first | lia | omega)
    · congr 1
      (first | lia | omega)
  rw [kmk_pick_nat _ e]
  show (vs.drop (min x.toNat vs.toArray.size)).take (min y.toNat vs.toArray.size - min x.toNat vs.toArray.size) = _
  rw [List.size_toArray, kmk_drop_min]
  by_cases hx : x.toNat ≤ vs.length
  · rw [Nat.min_eq_left hx, Nat.min_eq_left (by (first | lia | omega))]
  · rw [List.drop_of_length_le (by (first | lia | omega))]; simp

/-- a slice, as the ledger has it -/
theorem slice_L {value slice : Expr} {vs : List Value} {n : Nat} {vl vu : Value} {lo hi : Option Int} {zs : List Value} {Q : Value → Shared → Prop} (F : Fr h₀ L s.heap m) (N : News h₀ L s.heap news) (hl : (l, W.listOf vs.toArray n) ∈ news) (pl : IsPart vl lo) (pu : IsPart vu hi) (e : (slicePick vs.toArray lo hi none).toList = zs)
    (h : ∀ D h', Fr h₀ L h' m → News h₀ L h' ((D, W.listOf zs.toArray 0) :: news) → (∀ p ∈ news, p.1 < D) → Q (.ref D) { s with heap := h' })
    (hs : subscripted slice false (.ref l) (.ref s.heap.objs.size) = operate [.ref s.heap.objs.size, .ref l] (getItem (.ref l) (.ref s.heap.objs.size))) (ht : ∀ r, letTemporaryGo value (.ref l) r = pure ()) (hz : vs.length ≤ 1000) :
    wpAny (model prog w) A (subscriptTail value slice (.ref l) (.ref s.heap.objs.size)) Q E { s with heap := s.heap.push { cls := .type "slice", data := .fields #[vl, vu, .none] } } :=
  kmk_slice_lit F N (News.isList N hl) pl pu e h hs ht (by rw [List.size_toArray, PySem.sizeLine_eq]; (first | lia | omega))

theorem lex_uniq {xs ys : List (Int × Int)} (hp : xs.Perm ys) (h1 : xs.Pairwise (fun y z => lexK y < lexK z)) (h2 : ys.Pairwise (fun y z => lexK y < lexK z)) : xs = ys :=
  List.Perm.eq_of_pairwise (fun x y _ _ a b => by (first | lia | omega)) h1 h2 hp
end
end
section
set_option maxRecDepth 100000
theorem ci_slot_iter : Slot "callable_iterator" "__iter__" "callable_iterator.__iter__" :=
  .of (owner := "callable_iterator") (n := "__iter__") (by rw [typeLookup_type, builtinLookup_eq_fast]; kernel_rfl) (by decide +kernel) (by decide +kernel) (by decide +kernel)
    (by first | exact .inl (by decide +kernel) | exact .inr (by decide +kernel)) (by rw [isSubtype_type]; kernel_rfl)
theorem ci_slot_next : Slot "callable_iterator" "__next__" "callable_iterator.__next__" :=
  .of (owner := "callable_iterator") (n := "__next__") (by rw [typeLookup_type, builtinLookup_eq_fast]; kernel_rfl) (by decide +kernel) (by decide +kernel) (by decide +kernel)
    (by first | exact .inl (by decide +kernel) | exact .inr (by decide +kernel)) (by rw [isSubtype_type]; kernel_rfl)
theorem ci_entry_iter : entryFor table "callable_iterator.__iter__" = some Builtin.«dict_keyiterator.__iter__» :=
  entryFor_alias (id' := "dict_keyiterator.__iter__") (by kernel_rfl) (by first | rfl | decide +kernel | (unfold String.splitOn; simp +decide [String.splitOnAux])) (by decide +kernel) (by kernel_rfl)
theorem ci_entry_next : entryFor table "callable_iterator.__next__" = some Builtin.«callable_iterator.__next__» := entryFor_of_tree (by kernel_rfl)
theorem ci_args_next (a : Value) : argsOk "callable_iterator.__next__" ⟨[a], []⟩ := by unfold argsOk; kernel_rfl
theorem ci_args_iter (a : Value) : argsOk "callable_iterator.__iter__" ⟨[a], []⟩ := by unfold argsOk; kernel_rfl
theorem iter_args2 (a b : Value) : argsOk "iter" ⟨[a, b], []⟩ := by unfold argsOk; kernel_rfl
theorem meth_call_lookup : typeLookup (.type "method") "__call__" = pure (some (.builtin "method.__call__")) := by rw [typeLookup_type, builtinLookup_eq_fast]; kernel_rfl

abbrev ciO (q : Addr) (t : Tok) : Obj := { cls := .type "callable_iterator", data := .fields #[.ref q, .str (Str.ofString "") t, .bool false] }

section
variable {prog : Program} {w : World} {A : Around} {E : Value → Shared → Prop} {s : Shared} {h₀ : Heap} {L : Addr} {m : Str → Option Value} {news : Led}

theorem iter_two {q : Addr} {f self : Value} {t : Tok} {Q : Value → Shared → Prop} (F : Fr h₀ L s.heap m) (N : News h₀ L s.heap news) (hq : (q, methodObj f self) ∈ news)
    (h : ∀ I h', Fr h₀ L h' m → News h₀ L h' ((I, ciO q t) :: news) → (∀ p ∈ news, p.1 < I) → Q (.ref I) { s with heap := h' }) :
    wpAny (model prog w) A (call (.builtin "iter") [.ref q, .str (Str.ofString "") t]) Q E s := by
  refine Calls.call_function_entry (by decide +kernel) (by decide +kernel) kdk_entry_iter (iter_args2 _ _) ?_
  unfold Builtin.«iter»
  refine wpAny_bind (m := someArgs "iter" 1 2 _) (wpAny_of_eq (a := [Value.ref q, .str (Str.ofString "") t]) (by first | rfl | kernel_rfl!) ?_)
  have hT : s.TypeIs (.ref q) "method" := ⟨_, (N _ hq).1, rfl⟩
  dsimp only
  refine wpAny_bind (wpAny_specialOf hT meth_call_lookup ?_)
  simp only [Option.isNone_some, Bool.false_eq_true, if_false]
  refine wpAny_bind (wpAny_rule ?_)
  refine wpAny_bind ?_
  refine wpAny_newObj_type (wpAny_pure ⟨_, rfl, h _ _ (F.push _) (News.push F N _ rfl) fun p hp => Heap.lt_size (N p hp).1⟩) (by size_fits)

theorem wpAny_callBorrowed {M : Model} {f : Value} {pos : List Value} {Q : Value → Shared → Prop} (hc : codeAny M A (.call f ⟨pos, []⟩) (fun r s' => match r with | .ok (.ret v) => Q v s' | .ok _ => False | .error e => E e s') s) :
    wpAny M A (callBorrowed f pos) Q E s := by
  intro Γ p hΓ
  unfold callBorrowed
  rw [Sem.wp_call]
  have := hc _ p rfl (hΓ.enter (.call f ⟨pos, []⟩) none p (by intro x; cases x))
  refine wpCode_mono (fun r s' h => ?_) this
  cases r with
  | error e => exact h
  | ok f => cases f <;> first | exact h | exact h.elim

theorem ci_iter {I q : Addr} {t : Tok} {Q : Value → Shared → Prop} (hI : s.heap.get? I = some (ciO q t)) (h : Q (.ref I) s) : wpAny (model prog w) A (pyIter (.ref I)) Q E s := by
  have hT : s.TypeIs (.ref I) "callable_iterator" := ⟨_, hI, rfl⟩
  refine wpAny_pyIter_slot hT ci_slot_iter (wpAny_call_entry ci_slot_iter hT ci_entry_iter ?_ (ci_args_iter _))
  show wpAny _ _ (ret (.ref I)) _ _ s
  exact wpAny_pure ⟨_, rfl, "callable_iterator", _, hT, ci_slot_next.lookup, h⟩

theorem borrows {q g : Addr} {self : Value} {og : Obj} {fd : FuncData} {Q : Bool → Shared → Prop} (hq : s.heap.get? q = some (methodObj (.ref g) self)) (hg : s.heap.get? g = some og) (hfd : og.data = .func fd) (h : Q true s) :
    wpAny (model prog w) A (borrowsExactly (.ref q)) Q E s := by
  unfold borrowsExactly
  dsimp only
  refine wpAny_bind (wpAny_load hq ?_)
  dsimp only
  have e1 : ((Value.type "method") == (Value.type "method")) = true := by decide
  simp only [e1, if_true]
  show wpAny _ _ (load g >>= _) _ _ _
  refine wpAny_bind (wpAny_load hg ?_)
  rw [hfd]
  exact wpAny_pure h

theorem ci_item {I q g : Addr} {self : Value} {og : Obj} {fd : FuncData} {t : Tok} {c : Str} {tc : Tok} {Q : Option Value → Shared → Prop} (hI : s.heap.get? I = some (ciO q t)) (hq : s.heap.get? q = some (methodObj (.ref g) self)) (hg : s.heap.get? g = some og) (hfd : og.data = .func fd)
    (hne : c ≠ Str.ofString "")
    (hc : codeAny (model prog w) A.in1 (.call (.ref g) ⟨[self], []⟩) (fun r s' => r = .ok (.ret (.str c tc)) ∧ s'.heap.get? I = some (ciO q t) ∧ Q (some (.str c tc)) s') s) :
    wpAny (model prog w) A (pyNext (.ref I)) Q E s := by
  have hT : s.TypeIs (.ref I) "callable_iterator" := ⟨_, hI, rfl⟩
  unfold pyNext
  refine wpAny_bind (wpAny_attempt (wpAny_callSpecial?_slot (name := Str.ofString "__next__") hT ci_slot_next
    (wpAny_call_entry ci_slot_next hT ci_entry_next ?_ (ci_args_next _))))
  show wpAny _ _ (field (.ref I) 2 >>= _) _ _ s
  refine wpAny_bind (wpAny_field hI rfl (x := .bool false) rfl ?_)
  rw [if_neg (by decide)]
  show wpAny _ _ (field (.ref I) 0 >>= _) _ _ s
  refine wpAny_bind (wpAny_field hI rfl (x := .ref q) rfl ?_)
  refine wpAny_bind (wpAny_attempt ?_)
  unfold callOutOfASlot
  refine wpAny_bind (borrows hq hg hfd ?_)
  rw [if_pos rfl]
  refine wpAny_callBorrowed (method_call hq (codeAny_mono hc fun r s' hr => ?_))
  first | (refine e0a3 (hr) ?_; intro er0 hI' hQ; (try clear hr); subst er0) | (refine e1a2 (hr) ?_; intro er0 hI' hQ; (try clear hr); subst er0) | (refine e2a1 (hr) ?_; intro er0 hI' hQ; (try clear hr); subst er0) | obtain ⟨rfl, hI', hQ⟩ := hr
  show wpAny _ _ (field (.ref I) 2 >>= _) _ _ s'
  refine wpAny_bind (wpAny_field hI' rfl (x := .bool false) rfl ?_)
  rw [if_neg (by decide)]
  show wpAny _ _ (field (.ref I) 1 >>= _) _ _ s'
  refine wpAny_bind (wpAny_field hI' rfl (x := .str (Str.ofString "") t) rfl ?_)
  refine wpAny_bind (wpAny_holding (wpAny_eqBool_str ?_))
  have : decide (Str.ofString "" = c) = false := by simpa using fun e => hne e.symm
  rw [this]
  simp only [Bool.not_false, if_true]
  exact wpAny_bind (wpAny_pure (wpAny_pure ⟨_, rfl, wpAny_pure hQ⟩))

theorem ci_end {I q g : Addr} {self : Value} {og : Obj} {fd : FuncData} {t : Tok} {Q : Option Value → Shared → Prop} (hh : A.handled = none) (hI : s.heap.get? I = some (ciO q t)) (hq : s.heap.get? q = some (methodObj (.ref g) self)) (hg : s.heap.get? g = some og) (hfd : og.data = .func fd)
    (hc : codeAny (model prog w) A.in1 (.call (.ref g) ⟨[self], []⟩) (fun r s' => (∃ tc, r = .ok (.ret (.str (Str.ofString "") tc))) ∧ s'.heap.get? I = some (ciO q t) ∧ s'.heap.get? q = some (methodObj (.ref g) self) ∧ s'.heap.get? g = some og ∧ ∀ h', Heap.ExtBut I s'.heap h' → Q none { s' with heap := h' }) s) :
    wpAny (model prog w) A (pyNext (.ref I)) Q E s := by
  have hT : s.TypeIs (.ref I) "callable_iterator" := ⟨_, hI, rfl⟩
  unfold pyNext
  refine wpAny_bind (wpAny_attempt (wpAny_callSpecial?_slot (name := Str.ofString "__next__") hT ci_slot_next
    (wpAny_call_entry ci_slot_next hT ci_entry_next ?_ (ci_args_next _))))
  show wpAny _ _ (field (.ref I) 2 >>= _) _ _ s
  refine wpAny_bind (wpAny_field hI rfl (x := .bool false) rfl ?_)
  rw [if_neg (by decide)]
  show wpAny _ _ (field (.ref I) 0 >>= _) _ _ s
  refine wpAny_bind (wpAny_field hI rfl (x := .ref q) rfl ?_)
  refine wpAny_bind (wpAny_attempt ?_)
  unfold callOutOfASlot
  refine wpAny_bind (borrows hq hg hfd ?_)
  rw [if_pos rfl]
  refine wpAny_callBorrowed (method_call hq (codeAny_mono hc fun r s' hr => ?_))
  refine Small.go ?_
  intro gSm hSm
  obtain ⟨⟨tc, rfl⟩, hI', hq', hg', hQ⟩ := hr
  refine hSm ?_
  clear hSm gSm
  show wpAny _ _ (field (.ref I) 2 >>= _) _ _ s'
  refine wpAny_bind (wpAny_field hI' rfl (x := .bool false) rfl ?_)
  rw [if_neg (by decide)]
  show wpAny _ _ (field (.ref I) 1 >>= _) _ _ s'
  refine wpAny_bind (wpAny_field hI' rfl (x := .str (Str.ofString "") t) rfl ?_)
  refine wpAny_bind (wpAny_holding (wpAny_eqBool_str ?_))
  rw [decide_eq_true rfl]
  simp only [Bool.not_true, Bool.false_eq_true, if_false]
  refine wpAny_bind (wpAny_rule (wpAny_bind ?_))
  show wpAny _ _ (field (.ref I) 0 >>= _) _ _ _
  refine wpAny_bind (wpAny_field hI' rfl (x := .ref q) rfl ?_)
  show wpAny _ _ (slotLetsGo _ (.ref q) _ >>= _) _ _ _
  refine wpAny_bind ?_
  unfold slotLetsGo
  dsimp only
  refine wpAny_bind (borrows hq' hg' hfd ?_)
  rw [if_pos rfl]
  refine wpAny_pure ?_
  refine wpAny_bind (wpAny_setField hI' rfl (by simp) ?_)
  have e1 := Heap.get?_update_self (Obj.mapFields (·.setIfInBounds 0 .none)) hI' (by rfl)
  refine wpAny_bind (wpAny_setField e1 rfl (by simp) ?_)
  have e2 := Heap.get?_update_self (Obj.mapFields (·.setIfInBounds 1 .none)) e1 (by rfl)
  refine wpAny_setField e2 rfl (by simp) ?_
  show wpAny _ _ (newExc (.type "StopIteration") [] >>= _) _ _ _
  refine wpAny_bind ?_
  simp only [newExc, newTuple]
  refine wpAny_bind (wpAny_newObj_type ?_ (by size_fits))
  refine wpAny_bind (m := firstArgMember _ _) (wpAny_of_eq (a := Value.none) (by first | rfl | (simp only [firstArgMember]; rfl)) ?_)
  refine wpAny_newObj_type ?_ (by size_fits)
  simp only [raiseNew]
  refine wpAny_bind (wpAny_handled ?_)
  rw [show A.in1.handled = none from hh]
  refine wpAny_bind (wpAny_pure (wpAny_throw ?_))
  refine wpAny_bind (wpAny_isInstance (T := "StopIteration") (b := true) ⟨_, Heap.get?_push_size _ rfl, rfl⟩ isSubtype_stop ?_)
  refine wpAny_pure (hQ _ ((Heap.ExtBut.push ?_ _).push _))
  exact fun b o hb e => (Heap.get?_update_ne _ _ _ _ hb).trans ((Heap.get?_update_ne _ _ _ _ hb).trans ((Heap.get?_update_ne _ _ _ _ hb).trans e))
end
end
section
def catS : List Str → Str
  | [] => Str.ofString ""
  | x :: r => x ++ catS r
theorem str_ext {x y : Str} (h : x.cps.toList = y.cps.toList) : x = y := by
  obtain ⟨a⟩ := x; obtain ⟨b⟩ := y
  have := Array.toList_inj.mp h
  cases this; rfl
theorem str_app (x y : Str) : (x ++ y).cps.toList = x.cps.toList ++ y.cps.toList := by
  show (x.cps ++ y.cps).toList = _
  simp
theorem str_nil : (Str.ofString "").cps.toList = [] := by decide
theorem app_nil (x : Str) : x ++ Str.ofString "" = x := str_ext (by rw [str_app, str_nil, List.append_nil])
theorem nil_app (x : Str) : Str.ofString "" ++ x = x := str_ext (by rw [str_app, str_nil, List.nil_append])
theorem app_assoc (x y z : Str) : x ++ y ++ z = x ++ (y ++ z) := str_ext (by simp only [str_app, List.append_assoc])
theorem join_nil (l : List Str) : Txt.join (Str.ofString "") l = catS l := by
  show Builtin.Str.glued _ _ = _
  rw [StrLaws.glued_eq_join]
  induction l with
  | nil => rfl
  | cons x r ih =>
    cases r with
    | nil => show x = x ++ Str.ofString ""; rw [app_nil]
    | cons y r =>
      show x ++ Str.ofString "" ++ Str.join (Str.ofString "") (y :: r) = x ++ catS (y :: r)
      rw [ih, app_nil]
theorem cat_len : ∀ l : List Str, (catS l).length = (l.map (·.length)).sum
  | [] => rfl
  | x :: r => by rw [catS, Str.length_append, cat_len r, List.map_cons, List.sum_cons]
theorem signs_app (x y : Str) : signs (x ++ y) = signs x ++ signs y := by unfold signs; rw [str_app, List.map_append]
theorem signs_cat : ∀ l : List Str, signs (catS l) = l.flatMap signs
  | [] => rfl
  | x :: r => by rw [catS, signs_app, signs_cat r, List.flatMap_cons]
end
local macro_rules | `(tactic| kle_has) => `(tactic| (simp only [depth_under_make, depth_under_kw, depth_in1, depth_deeper, depth_caller, Around.deeper, Around.in1, Around.in1_depth, recursionLimit] at *; omega))
local macro_rules | `(tactic| ktr_room) => `(tactic| first | ((try simp only [depth_under_make, depth_under_kw, depth_in1, depth_deeper, depth_caller, Around.deeper, Around.in1, Around.in1_depth, Nat.add_assoc, Nat.reduceAdd]); exact room_le (by assumption) (by decide)) | kle_has)
local macro_rules | `(tactic| k_room) => `(tactic| ktr_room)
local macro_rules | `(tactic| k_units) => `(tactic| first | ((try simp only [Around.deeper, Around.in1, Around.in1_units, Around.mark_units, Nat.add_assoc, Nat.reduceAdd]); exact room_le (by assumption) (by decide)) | ((have hcL9 := cLine_is); simp only [Around.deeper, Around.in1, Around.in1_units, Around.mark_units] at *; omega))
local macro_rules | `(tactic| ktr_units) => `(tactic| k_units)
local macro_rules | `(tactic| cell_enter) => `(tactic| (refine' code_def (by k_asm) (by k_asm) (by k_asm) (by k_asm) (by k_asm) (by exact rfl) (by first | exact rfl | assumption) (by first | exact rfl | assumption) (by k_is) (by k_is) (by ktr_room) (by first | exact BindsTo.of_eq rfl | exact binds_K (by k_in) rfl (by k_is) rfl rfl rfl) (by exact locs rfl) ?_ (by exact rfl) (by exact rfl) (by exact rfl) (by decide); k_whole; intro g' L' h' FG' F' N' B' X' T'; (try dsimp only); (try k_lift B'); (try k_fold)))
local macro_rules | `(tactic| walk_at "call builtin:len") => `(tactic| (k_here; (with_reducible show wpAny _ _ (call (Value.builtin "len") [Value.ref _]) _ _ _); k_dflt (refine' PyProof.Rows.len_list (News.isList ?N ?m) ?fit ?_; (case N => k_asm); (case m => k_mem); (case fit => (simp only [List.size_toArray]; omega)); k_whole); (try simp only [List.size_toArray])))
local macro_rules | `(tactic| k_mem) => `(tactic| first | (refine List.Mem.tail _ ?_; assumption) | (refine List.Mem.tail _ (List.Mem.tail _ ?_); assumption) | (refine List.Mem.tail _ (List.Mem.tail _ (List.Mem.tail _ ?_)); assumption) | (refine List.Mem.tail _ (List.Mem.tail _ (List.Mem.tail _ (List.Mem.tail _ ?_))); assumption))
local macro_rules | `(tactic| walk_at "pyIter ref") => `(tactic| (k_here; (with_reducible show wpAny _ _ (pyIter (Value.ref _)) (ForAt _ _ _ _ _ _ _ _ _) _ _); refine Hold.out ?_))
local macro_rules | `(tactic| walk_at "FEnd") => `(tactic| (k_here; refine Hold.out ?_))
local macro_rules | `(tactic| k_all) => `(tactic| assumption)
local macro_rules | `(tactic| walk_at "call builtin:list.append") => `(tactic| (k_here; (with_reducible show wpAny _ _ (call (Value.builtin _) [Value.ref _, _]) _ _ _); k_dflt (refine' append_L ?F ?N ?z ?U ?_; (case F => k_asm); (case N => k_asm); (case U => k_upd); (case z => omega)); kl_rest))
local macro_rules | `(tactic| walk_at "call builtin:list.insert") => `(tactic| (k_here; (with_reducible show wpAny _ _ (call (Value.builtin _) [Value.ref _, Value.int _ _, _]) _ _ _); k_dflt (refine' ins_list ?F ?N ?f ?z ?U ?_; (case F => k_asm); (case N => k_asm); (case U => k_upd); (case f => omega); (case z => omega)); kl_rest))
local macro_rules | `(tactic| cell_step) => `(tactic| (refine' code_defC ?k1 ?k2 ?k3 ?k4 ?k5 ?kA ?kF ?kK ?k6 ?k7 ?k8 ?k9 ?kB ?kD ?_ ?c2 ?c3 ?c4; (case kA => exact rfl); (case kF => first | exact rfl | assumption); (case kK => first | exact rfl | assumption); (case k1 => k_asm); (case k2 => k_asm); (case k3 => k_asm); (case k4 => k_asm); (case k5 => k_asm); (case k6 => k_is); (case k7 => k_is); (case k8 => ktr_room); (case k9 => first | exact BindsTo.of_eq rfl | exact binds_K (by k_in) rfl (by k_is) rfl rfl rfl); (case kB => exact rfl); (case kD => decide +kernel); (case c2 => exact rfl); (case c3 => exact rfl); (case c4 => exact rfl); k_whole; intro g' L' h' tk' cells' FG' F' N' Y' B' X' T' l1; k_cells Y'; (try simp only [List.cons_append, List.nil_append] at N'); (try dsimp only); (try k_lift B'); (try k_fold)))
local macro_rules | `(tactic| k_all) => `(tactic| (intro p9 hp9; (have h9 := Mine.bnd hp9 (by assumption)); refine neN ?_; (try dsimp only); omega))
local macro_rules | `(tactic| walk_at "call builtin:list.pop") => `(tactic| (k_here; (with_reducible show wpAny _ _ (call (Value.builtin _) [Value.ref _, Value.int 0 _]) _ _ _); k_dflt (refine' pop0_L ?F ?N ?z ?U ?_; (case F => k_asm); (case N => k_asm); (case U => k_upd); (case z => (simp only [List.length_cons] at *; omega))); kl_rest))
local macro_rules | `(tactic| walk_at "call builtin:list.pop") => `(tactic| (k_here; (with_reducible show wpAny _ _ (call (Value.builtin _) [Value.ref _]) _ _ _); k_dflt (refine' popLast_L ?F ?N ?z ?U ?_; (case F => k_asm); (case N => k_asm); (case U => k_upd); (case z => (simp only [List.length_append, List.length_cons, List.length_nil] at *; omega))); kl_rest))
local macro_rules | `(tactic| walk_at "truthy ref") => `(tactic| (k_here; (with_reducible show wpAny _ _ (truthy (Value.ref _)) _ _ _); k_dflt (refine' wpAny_truthy_list (News.isList ?N ?m) ?fit ?_; (case N => k_asm); (case m => k_mem); (case fit => first | (simp only [List.size_toArray, List.length_append, List.length_cons, List.length_nil]; omega) | decide); k_whole); (try simp only [List.isEmpty_toArray, List.isEmpty_append, List.isEmpty_cons, List.isEmpty_nil, Bool.and_false, Bool.not_false, Bool.not_true])))
local macro_rules | `(tactic| kn_enter) => `(tactic| (refine' code_nest (by k_asm) (by k_asm) (by k_asm) (by k_asm) (by k_asm) (by exact rfl) (by first | exact rfl | assumption) (by first | exact rfl | assumption) (by k_mem) (by exact codeRec_news (by k_asm) (by k_mem) (by assumption) (by assumption)) (by ktr_room) (by exact BindsTo.of_eq rfl) (by exact locs rfl) ?_ (by exact rfl) (by exact rfl) (by exact rfl) (by decide); k_whole; intro g' L' h' FG' F' N' B' X' T'; (try dsimp only); (try k_lift B'); (try k_fold)))
local macro_rules | `(tactic| walk_at "inplaceOp Add str str") => `(tactic| (k_here; k_dflt (refine' PyProof.Rows.iadd_str ?h ?z; (case z => (rw [PySem.sizeLine_eq]; omega))); intro t9 k9))
local macro_rules | `(tactic| walk_at "eval ListComp") => `(tactic| (k_here; k_dflt (refine comp_E (by with_unfolding_all rfl) (by rfl) (by decide) ?_)))
local macro_rules | `(tactic| walk_at "pyIter str") => `(tactic| (k_here; (with_reducible show wpAny _ _ (pyIter (Value.str _ _)) (CompAt _ _ _ _ _ _ _ _ _ _ _) _ _); refine Hold.out ?_))
local macro_rules | `(tactic| walk_at "pyIter ref") => `(tactic| (k_here; (with_reducible show wpAny _ _ (pyIter (Value.ref _)) (CompAt _ _ _ _ _ _ _ _ _ _ _) _ _); refine Hold.out ?_))
local macro_rules | `(tactic| walk_at "ElEnd") => `(tactic| (k_here; refine Hold.out ?_))
local macro_rules | `(tactic| walk_at "exec For Name Call cons nil") => `(tactic| (k_here; k_dflt (refine For_start ?_)))
local macro_rules | `(tactic| walk_at "exec For Name Name cons nil") => `(tactic| (k_here; k_dflt (refine For_start ?_)))
local macro_rules | `(tactic| walk_at "exec For Tuple BinOp cons nil") => `(tactic| (k_here; k_dflt (refine For_start ?_)))
local macro_rules | `(tactic| walk_at "exec For Tuple Call cons nil") => `(tactic| (k_here; k_dflt (refine For_start ?_)))
local macro_rules | `(tactic| walk_at "exec For Tuple Call cons cons") => `(tactic| (k_here; k_dflt (refine For_start ?_)))
local macro_rules | `(tactic| k_in) => `(tactic| first | with_reducible assumption | (refine' Frag.In.keeps ?kX (Fr.keep ?kF); (case kF => with_reducible assumption); (case kX => with_reducible assumption)))
section
section
set_option maxRecDepth 100000 in
set_option maxHeartbeats 8000000 in
theorem c_value {w : World} {loose mean mg mb} {news : Led} {t : Addr} {v p : Int} {k u : Tok} (hm : (t, pairO v p k u) ∈ news) :
    Ctr w loose mean mg mb 1 8 101 [.ref t] [] news (fun r n => (∃ k, r = .int v k) ∧ n = news) := by
  unfold Ctr
  k_fill
  intro dp un gd env outer A₀ base h₀ L m s R B F X N T hf hke hd hu hret
  k_dflt cell_enter
  (try ((with_reducible show wpAny _ _ (execs _ _) _ _ _); (try dsimp only); k_fold))
  k_steps
  exact hret _ _ _ _ ⟨⟨_, rfl⟩, rfl⟩ (by k_asm) (by k_asm)
end
end
section
section
local macro_rules | `(tactic| walk_at "call ref") => `(tactic| (k_here; k_dflt (refine' call_val (f := 101) (C := c_value (by k_mem)) (ret := ?_)); intro k9 h9 tk9 F9 N9; (try dsimp only); (try k_sweep)))
local macro_rules | `(tactic| walk_at "exec While Compare") => `(tactic| (k_here; refine Hold.out ?_))
local macro_rules | `(tactic| walk_at "WhileStep2") => `(tactic| (k_here; refine Hold.out ?_))
local macro_rules | `(tactic| walk_at "subscriptTail") => `(tactic| (k_here; (with_reducible show wpAny _ _ (subscriptTail _ _ (Value.ref _) (Value.int _ _)) _ _ _); refine Hold.out ?_))
set_option maxRecDepth 100000 in
set_option maxHeartbeats 8000000 in
theorem c_bisect {w : World} {loose mean mg mb} {news : Led} {E : Addr} {nE : Nat} {vs : List Value} {xs : List (Int × Int)} {args : List Value} {x : Int} {tx : Tok} (hm : (E, W.listOf vs.toArray nE) ∈ news) (hI : Its news vs xs) (ha : args = [.ref E, .int x tx] ∨ ∃ t0, args = [.ref E, .int x tx, .int 0 t0, .none]) (hlen : xs.length ≤ 100)
    (hs : ∀ (i j : Nat) y z, i ≤ j → xs[i]? = some y → xs[j]? = some z → y.1 ≤ z.1) :
    Ctr w loose mean mg mb 2 20 74 args [(Str.ofString "key", .ref 101)] news (fun r n => (∃ k, r = .int (cnt xs x : Int) k) ∧ n = news) := by
  unfold Ctr
  k_fill
  intro dp un gd env outer A₀ base h₀ L m s R B F X N T hf hke hd hu hret
  have hvl := hI.length
  rcases ha with rfl | ⟨t0, rfl⟩
  all_goals k_dflt cell_enter
  all_goals k_steps
  all_goals (
    refine Hold.intro ?_
    k_fold
    (rename Fr _ _ _ _ => F1)
    (rename News _ _ _ _ => N1)
    refine While_inv2 (fun n m' nx => nx = news ∧ ∃ (lo hi : Int) (tl th : Tok), 0 ≤ lo ∧ lo ≤ hi ∧ hi ≤ vs.length ∧ (∀ (i : Nat) y, (i : Int) < lo → xs[i]? = some y → y.1 ≤ x) ∧ (∀ (i : Nat) y, hi ≤ (i : Int) → xs[i]? = some y → x < y.1) ∧ n = (hi - lo).toNat ∧
      AllB [(Str.ofString "a", Value.ref E), (Str.ofString "x", .int x tx), (Str.ofString "lo", .int lo tl), (Str.ofString "hi", .int hi th), (Str.ofString "key", .ref 101)] m') F1 N1 (n₀ := vs.length) ⟨rfl, 0, vs.length, _, _, by (first | lia | omega), by (first | lia | omega), by (first | lia | omega), fun i y h => by (first | lia | omega), fun i y h g => by (have := (List.getElem?_eq_some_iff.mp g).1; (first | lia | omega)), by (first | lia | omega), rfl, rfl, rfl, rfl, rfl, trivial⟩ ?_
    intro n m₁ nx h₁ tk₁ F₁ N₁ zq1
    (try dsimp only)
    (try k_fold)
    refine Small.go ?_
    intro gSm hSm
    obtain ⟨rfl, lo, hi, tl, th, h0, h1, h2, h3, h4, rfl, hk⟩ := zq1
    refine hSm ?_
    clear hSm gSm
    replace F₁ := Fr.bindA F₁ hk
    clear hk F1
    (try ((with_reducible show wpAny _ _ (execs _ _) _ _ _); (try dsimp only); k_fold))
    k_steps
    · have hm1 : ((lo + hi).fdiv 2).toNat < xs.length := by have := Int.fdiv_eq_ediv_of_nonneg (lo + hi) (b := 2) (by (first | lia | omega)); (first | lia | omega)
      first | (refine e0a5 (hI.get _ _ (List.getElem?_eq_getElem hm1)) ?_; intro t k u hv ht) | (refine e1a4 (hI.get _ _ (List.getElem?_eq_getElem hm1)) ?_; intro t k u hv ht) | (refine e2a3 (hI.get _ _ (List.getElem?_eq_getElem hm1)) ?_; intro t k u hv ht) | (refine e3a2 (hI.get _ _ (List.getElem?_eq_getElem hm1)) ?_; intro t k u hv ht) | (refine e4a1 (hI.get _ _ (List.getElem?_eq_getElem hm1)) ?_; intro t k u hv ht) | obtain ⟨t, k, u, hv, ht⟩ := hI.get _ _ (List.getElem?_eq_getElem hm1)
      generalize hx0 : xs[((lo + hi).fdiv 2).toNat] = y0 at ht
      have hx1 : xs[((lo + hi).fdiv 2).toNat]? = some y0 := by rw [List.getElem?_eq_getElem hm1, hx0]
      have hq := Int.fdiv_eq_ediv_of_nonneg (lo + hi) (b := 2) (by (first | lia | omega))
      refine Hold.intro ?_
      k_dflt (refine' item_list (News.isList (by k_asm) hm) ?_ ?_ (by rw [List.getElem?_toArray]; exact hv) ?_)
      · (first | lia | omega)
      · (first | lia | omega)
      (try ((with_reducible show wpAny _ _ (execs _ _) _ _ _); (try dsimp only); k_fold))
      k_steps
      · refine Hold.intro ?_
        refine ⟨_, _, _, _, ((lo + hi).fdiv 2 - lo).toNat, rfl, by k_asm, by k_asm, by (first | lia | omega), rfl, lo, (lo + hi).fdiv 2, _, _, by (first | lia | omega), by (first | lia | omega), by (first | lia | omega), h3, fun i y g1 g2 => ?_, by (first | lia | omega), rfl, rfl, rfl, rfl, rfl, trivial⟩
        have := hs _ i _ _ (by (first | lia | omega)) hx1 g2
        (first | lia | omega)
      · refine Hold.intro ?_
        refine ⟨_, _, _, _, (hi - ((lo + hi).fdiv 2 + 1)).toNat, rfl, by k_asm, by k_asm, by (first | lia | omega), rfl, (lo + hi).fdiv 2 + 1, hi, _, _, by (first | lia | omega), by (first | lia | omega), by (first | lia | omega), fun i y g1 g2 => ?_, h4, by (first | lia | omega), rfl, rfl, rfl, rfl, rfl, trivial⟩
        have := hs i _ _ _ (by (first | lia | omega)) g2 hx1
        (first | lia | omega)
    · refine hret _ _ _ _ ⟨⟨tl, ?_⟩, rfl⟩ (by k_asm) (by k_asm)
      have : (cnt xs x : Int) = lo := by
        have : cnt xs x = lo.toNat := cnt_of (by (first | lia | omega)) (fun i y g1 g2 => h3 i y (by (first | lia | omega)) g2) (fun i y g1 g2 => h4 i y (by (first | lia | omega)) g2)
        (first | lia | omega)
      rw [this])
end
end
section
local macro_rules | `(tactic| walk_at "call ref") => `(tactic| (k_here; k_dflt (refine' call_val (f := 101) (C := c_value (by k_mem)) (ret := ?_)); intro k9 h9 tk9 F9 N9; (try dsimp only); (try k_sweep)))
local macro_rules | `(tactic| walk_at "call ref") => `(tactic| (k_here; k_dflt (refine' call_val (f := 74) (C := c_bisect (by k_mem) (by assumption) (by first | exact .inl rfl | exact .inr ⟨_, rfl⟩) (by assumption) (by assumption)) (ret := ?_)); intro k9 h9 tk9 F9 N9; (try dsimp only); (try k_sweep)))
section

set_option maxRecDepth 100000 in
set_option maxHeartbeats 8000000 in
theorem c_above {w : World} {loose mean mg mb} {news : Led} {E : Addr} {nE : Nat} {vs : List Value} {xs : List (Int × Int)} {t : Addr} {v p : Int} {k u : Tok} (hm : (E, W.listOf vs.toArray nE) ∈ news) (hI : Its news vs xs) (ht : (t, pairO v p k u) ∈ news) (hlen : xs.length ≤ 100)
    (hs : ∀ (i j : Nat) y z, i ≤ j → xs[i]? = some y → xs[j]? = some z → y.1 ≤ z.1) :
    Ctr w loose mean mg mb 3 30 108 [.ref E, .ref t] [] news (fun r n => (∃ k, r = .int ((xs.length : Int) - (cnt xs v : Int)) k) ∧ n = news) := by
  unfold Ctr
  k_fill
  intro dp un gd env outer A₀ base h₀ L m s R B F X N T hf hke hd hu hret
  have hvl := hI.length
  k_dflt cell_enter
  (try ((with_reducible show wpAny _ _ (execs _ _) _ _ _); (try dsimp only); k_fold))
  k_steps
  rw [hvl]
  exact hret _ _ _ _ ⟨⟨_, rfl⟩, rfl⟩ (by k_asm) (by k_asm)
end
section

set_option maxRecDepth 100000 in
set_option maxHeartbeats 8000000 in
theorem c_insort {w : World} {loose mean mg mb} {news : Led} {E : Addr} {nE : Nat} {vs : List Value} {xs : List (Int × Int)} {t : Addr} {v p : Int} {k u : Tok} (hm : (E, W.listOf vs.toArray nE) ∈ news) (hI : Its news vs xs) (ht : (t, pairO v p k u) ∈ news) (hlen : xs.length ≤ 100)
    (hs : ∀ (i j : Nat) y z, i ≤ j → xs[i]? = some y → xs[j]? = some z → y.1 ≤ z.1) :
    Ctr w loose mean mg mb 3 30 65 [.ref E, .ref t] [(Str.ofString "key", .ref 101)] news (fun r n => r = .none ∧ (E, W.listOf (vs.take (cnt xs v) ++ .ref t :: vs.drop (cnt xs v)).toArray (nE + 1)) ∈ n ∧ ∀ p ∈ news, p.1 ≠ E → p ∈ n) := by
  unfold Ctr
  k_fill
  intro dp un gd env outer A₀ base h₀ L m s R B F X N T hf hke hd hu hret
  have hvl := hI.length
  have hcnt : cnt xs v ≤ xs.length := List.countP_le_length
  first | (refine e0a5 (pull N hm) ?_; intro rest N0 hr1 hr2 hr3) | (refine e1a4 (pull N hm) ?_; intro rest N0 hr1 hr2 hr3) | (refine e2a3 (pull N hm) ?_; intro rest N0 hr1 hr2 hr3) | (refine e3a2 (pull N hm) ?_; intro rest N0 hr1 hr2 hr3) | (refine e4a1 (pull N hm) ?_; intro rest N0 hr1 hr2 hr3) | obtain ⟨rest, N0, hr1, hr2, hr3⟩ := pull N hm
  have hI0 : Its ((E, W.listOf vs.toArray nE) :: rest) vs xs := hI.mono fun t v p k u h => .tail _ (hr2 _ h (apart N h hm (by simp)))
  have ht0 : (t, pairO v p k u) ∈ rest := hr2 _ ht (apart N ht hm (by simp))
  clear N hI hm ht
  k_dflt cell_enter
  (try ((with_reducible show wpAny _ _ (execs _ _) _ _ _); (try dsimp only); k_fold))
  k_steps
  exact hret _ _ _ _ ⟨rfl, List.mem_cons_self, fun p hp hne => .tail _ (hr2 p hp hne)⟩ (by k_asm) (by k_asm)
end
end
section
section
local macro_rules | `(tactic| walk_at "call builtin:str.join") => `(tactic| (k_here; (with_reducible show wpAny _ _ (call (Value.builtin _) [Value.str _ _, Value.ref _]) _ _ _); k_dflt (refine' join_listW (News.isList ?N ?m) ?hi ?sep ?w ?_; (case N => k_asm); (case m => k_mem); (case hi => (show StrsAre _ _; first | assumption | solve_by_elim)); (case sep => decide); (case w => assumption)); intro t9 k9))
local macro_rules | `(tactic| walk_at "exec For") => `(tactic| (k_here; k_dflt (refine For_start ?_)))
local macro_rules | `(tactic| walk_at "exec For Name Call cons cons") => `(tactic| (k_here; k_dflt (refine For_start ?_)))
set_option maxRecDepth 100000 in
set_option maxHeartbeats 8000000 in
theorem c_flags {w : World} {loose mean mg mb} {news : Led} {k : Nat} {tk0 : Tok} (h1 : 1 ≤ k) (h2 : k ≤ 31) :
    Ctr w loose mean mg mb 2 20 82 [.int k tk0] [] news (fun r n => (∃ t, r = .str (PF k) t) ∧ n = news) := by
  unfold Ctr
  k_fill
  intro dp un gd env outer A₀ base h₀ L m s R B F X N T hf hke hd hu hret
  k_dflt cell_enter
  k_steps
  refine Hold.intro ?_
  k_fold
  (rename Fr _ _ _ _ => F1)
  (rename News _ _ _ _ => N1)
  (rename IsRange _ _ _ _ _ _ _ _ => R1)
  (rename (∀ p ∈ _, _ < _) => l1)
  refine for_range (n := 32) (fun i m nw => i ≤ 4 ∧ ∃ (fl : Nat) (tf : Tok) (D : Addr) (vs : List Value) (nD : Nat), fl ≠ 0 ∧ fl = (k >>> i) <<< i ∧ StrsAre vs (flagsUpTo k i) ∧ (∀ p ∈ news, p ∈ nw) ∧ (D, W.listOf vs.toArray nD) ∈ nw ∧ (∀ p ∈ news, p.1 ≠ D) ∧
    AllB [(Str.ofString "flags", .int fl tf), (Str.ofString "names", .ref D)] m) rfl F1 N1 R1 (by decide) rfl ?_ ?_ ?_ ?_ rfl rfl (by passes_own)
  · exact ⟨by (first | lia | omega), k, _, _, _, _, by (first | lia | omega), rfl, .nil, fun p hp => .tail _ hp, List.mem_cons_self, fun p hp => Nat.ne_of_lt (l1 p hp), rfl, rfl, trivial⟩
  · intro i m nw nw' zq1 hs
    refine Small.go ?_
    intro gSm hSm
    obtain ⟨hi4, fl, tf, D, vs, nD, hf0, hfl, hvs, hsub, hD, hDn, hk⟩ := zq1
    refine hSm ?_
    clear hSm gSm
    exact ⟨hi4, fl, tf, D, vs, nD, hf0, hfl, hvs, fun p hp => hs _ (hsub p hp) (.inr ⟨p, .tail _ hp, rfl⟩), hs _ hD (.inl (by simp)), hDn, hk⟩
  · clear N1 F1
    intro i t m₁ news₁ h tk I oI s' zq2 hi hc zq3 F₁ N₁
    refine Small.go ?_
    intro gSm hSm
    obtain ⟨g, rfl⟩ := zq2
    obtain ⟨hi4, fl, tf, D, vs, nD, hf0, hfl, hvs, hsub, hD, hDn, hk⟩ := zq3
    refine hSm ?_
    clear hSm gSm
    have hID : I ≠ D := apart N₁ (.head _) (.tail _ hD) (by rw [hc]; simp)
    first | (refine e0a5 (pull N₁ (.tail _ hD)) ?_; intro rest N2 r1 r2 r3) | (refine e1a4 (pull N₁ (.tail _ hD)) ?_; intro rest N2 r1 r2 r3) | (refine e2a3 (pull N₁ (.tail _ hD)) ?_; intro rest N2 r1 r2 r3) | (refine e3a2 (pull N₁ (.tail _ hD)) ?_; intro rest N2 r1 r2 r3) | (refine e4a1 (pull N₁ (.tail _ hD)) ?_; intro rest N2 r1 r2 r3) | obtain ⟨rest, N2, r1, r2, r3⟩ := pull N₁ (.tail _ hD)
    have F2 := Fr.bindX F₁ hk
    have hvl : vs.length ≤ 100 := by rw [hvs.length]; have := flagsUpTo_length k i; (first | lia | omega)
    have hIr : (I, oI) ∈ rest := r2 _ (.head _) hID
    have hsr : ∀ p ∈ news, p ∈ rest := fun p hp => r2 _ (.tail _ (hsub p hp)) (hDn p hp)
    have fA := fl_and0 k (by (first | lia | omega)) i (by (first | lia | omega))
    have fB := fl_and1 k (by (first | lia | omega)) i (by (first | lia | omega))
    have fD := fl_done k (by (first | lia | omega)) (i + 1) (by (first | lia | omega))
    rw [← hfl] at fA fB
    clear F₁ N₁
    obtain rfl | rfl | rfl | rfl | rfl : i = 0 ∨ i = 1 ∨ i = 2 ∨ i = 3 ∨ i = 4 := by (first | lia | omega)
    all_goals k_steps
    all_goals first
      | ((rename Builtin.bitXor _ _ ≠ 0 => q2); (rename Builtin.bitAnd _ _ ≠ 0 => q1); (have e := fB q1); (have hne := cast_ne e.2 q2); (unfold Hold FEnd); dsimp only;
         first
         | exact absurd (fl_five k (by (first | lia | omega))) hne
         | exact ⟨_, _, _, _, rfl, by k_asm, news_dup (by k_asm) (.tail _ hIr), trivial, by (first | lia | omega), _, _, D, _, _, hne, rfl, flags_set hvs e.1 rfl, fun p hp => .tail _ (hsr p hp), List.mem_cons_self, hDn, by rw [← e.2]; rfl, rfl, trivial⟩)
      | ((rename Builtin.bitXor _ _ = 0 => q2); (rename Builtin.bitAnd _ _ ≠ 0 => q1); (have e := fB q1); (unfold Hold FEnd); dsimp only;
         (have hz := cast_eq0 e.2 q2); (have hfd := fD hz); (have hw9 := fl_weight k (by (first | lia | omega))); rw [← hfd] at hw9; (have hv9 := fun t => flags_set (t := t) (x := flagName _) hvs e.1 rfl);
         (dsimp only [flagName] at hv9); k_steps; rw [hfd]; exact hret _ _ _ _ ⟨⟨_, rfl⟩, rfl⟩ (by k_asm) (fun p hp => (by (rename News _ _ _ _ => N8); exact N8 p (.tail _ (hsr p hp)))))
      | ((rename Builtin.bitAnd _ _ = 0 => q1); (have e := fA q1); (unfold Hold FEnd); dsimp only;
         first
         | exact absurd (e.2.trans (fl_five k (by (first | lia | omega)))) hf0
         | exact ⟨_, _, _, _, rfl, by k_asm, news_dup (by k_asm) (.tail _ hIr), trivial, by (first | lia | omega), fl, _, D, _, _, hf0, e.2, flags_clr hvs e.1, fun p hp => .tail _ (hsr p hp), List.mem_cons_self, hDn, rfl, rfl, trivial⟩)
  · intro m₁ news₁ h tk zq4
    obtain ⟨hi4, _⟩ := zq4
    (first | lia | omega)
end
end
section
section
theorem strs_rev {vs : List Value} {xs : List Str} (h : StrsAre vs xs) : StrsAre vs.reverse xs.reverse := by
  induction h with
  | nil => exact .nil
  | cons y t _ ih => rw [List.reverse_cons, List.reverse_cons]; exact strs_snoc ih y t
theorem car_len {vs : List Value} {ds : List PyData} (h : CarriedAll vs ds) : vs.length = ds.length := h.len
local macro_rules | `(tactic| walk_at "subscriptTail Name Slice ref ref") => `(tactic| (k_here; (with_reducible show wpAny _ _ (subscriptTail _ (PySem.Expr.Slice none none (some _) _) (Value.ref _) (Value.ref _)) _ _ _); k_dflt (refine' krv_lit ?F ?N ?l ?k ?e ?_ ?s ?t ?z; (case F => k_asm); (case N => k_asm); (case l => assumption); (case k => exact IsPart.int _ _); (case e => exact rfl); (case s => with_unfolding_all rfl); (case t => kmk_pure); (case z => ((have hc9 := car_len (by assumption)); simp only [List.size_toArray, PySem.sizeLine_eq, hc9, List.length_map, signs_length]; omega))); intro D' h' F' N' l1; (try k_lt l1)))
set_option maxRecDepth 100000 in
set_option maxHeartbeats 8000000 in
theorem c_lexer {w : World} {loose mean mg mb} {news : Led} {x : Str} {tk0 : Tok} (hx : x.length ≤ 1000) (hT : (84, tabObj #[]) ∈ news) :
    CtrH (fun h₀ => CodeHd h₀ 88 84) w loose mean mg mb 5 60 89 [.str x tk0] [] news (fun r n => ∃ (X : LexIds) (sg : List Value) (nP : Nat), r = .ref X.x ∧ (∃ vs, X.oc.data = .fields vs) ∧ X.ocl.data = .cell (some (.ref X.G)) ∧ LexAt w X 1 sg n ∧ PieceSpec w loose mean mg mb X ∧ StrsAre sg (signs x).reverse ∧ (X.P, W.listOf [].toArray nP) ∈ n ∧ (∃ ps, (84, tabObj ps) ∈ n) ∧ ∀ p ∈ news, p.1 ≠ 84 → p ∈ n) := by
  unfold CtrH
  k_fill
  intro dp un gd env outer A₀ base h₀ L m s R B F X N T hf hke hd hu hC hret
  first | (refine e0a5 (pull N hT) ?_; intro rest N0 hr1 hr2 hr3) | (refine e1a4 (pull N hT) ?_; intro rest N0 hr1 hr2 hr3) | (refine e2a3 (pull N hT) ?_; intro rest N0 hr1 hr2 hr3) | (refine e3a2 (pull N hT) ?_; intro rest N0 hr1 hr2 hr3) | (refine e4a1 (pull N hT) ?_; intro rest N0 hr1 hr2 hr3) | obtain ⟨rest, N0, hr1, hr2, hr3⟩ := pull N hT
  clear N
  k_dflt cell_step
  (rename Fr h₀ L _ m => FG9)
  have hC' := hC.keeps FG9.keep
  (rename (∀ p ∈ _, _ < _) => l1)
  have l84 : @LT.lt Nat _ 84 _ := l1 _ (.head _)
  have hrL : ∀ p ∈ rest, p.1 < _ := fun p hp => l1 p (.tail _ hp)
  clear l1
  (try ((with_reducible show wpAny _ _ (execs _ _) _ _ _); (try dsimp only); k_fold))
  k_steps
  (rename CarriedAll _ _ => hc1)
  have hsg : StrsAre _ _ := strs_rev (StrsAre.ofCarried hc1)
  refine' hret _ _ _ _ ?hP ?hF ?hN
  case hF => k_asm
  case hN => k_asm
  refine' ⟨⟨_, _, _, _, _, _, _, _, _, _, _, _, _, _, _, _, _, _, _, _, _, _, _, _, _⟩, _, _, rfl, ⟨_, by assumption⟩, by assumption, ⟨by k_mem, ⟨_, by k_mem⟩, by k_mem, by k_mem, by k_mem, by (repeat first | exact List.Mem.head _ | refine List.Mem.tail _ ?_), by (repeat first | exact List.Mem.head _ | refine List.Mem.tail _ ?_), ⟨_, by k_mem⟩⟩, ?_, hsg, by k_mem, ⟨_, by k_mem⟩, fun p hp hne => ?_⟩
  · clear hret N0 hr1 hr2 hr3 hsg hc1 B F hf hke hd hu
    intro news2 sg2 nG tk2 q1 q2 q3 q4 q5
    dsimp only at q1 q2 q3 q4
    constructor
    · intro zq1
      (try dsimp only)
      (try k_fold)
      obtain rfl := zq1
      unfold Ctr
      intro dp un gd env outer A₀ base h₀ L m s R B F X N T hf hke hd hu hret
      k_dflt kn_enter
      (try ((with_reducible show wpAny _ _ (execs _ _) _ _ _); (try dsimp only); k_fold))
      k_steps
      exact hret _ _ _ _ ⟨⟨_, rfl⟩, rfl⟩ (by k_asm) (by k_asm)
    · intro sg3 v zq2
      (try dsimp only)
      (try k_fold)
      obtain rfl := zq2
      unfold Ctr
      intro dp un gd env outer A₀ base h₀ L m s R B F X N T hf hke hd hu hret
      (rename Obj.data _ = Data.cell (some _) => dcl)
      (rename Obj.data _ = Data.fields _ => doc)
      first | (refine e0a5 (pull N q4) ?_; intro rest2 N2 r1 r2 r3) | (refine e1a4 (pull N q4) ?_; intro rest2 N2 r1 r2 r3) | (refine e2a3 (pull N q4) ?_; intro rest2 N2 r1 r2 r3) | (refine e3a2 (pull N q4) ?_; intro rest2 N2 r1 r2 r3) | (refine e4a1 (pull N q4) ?_; intro rest2 N2 r1 r2 r3) | obtain ⟨rest2, N2, r1, r2, r3⟩ := pull N q4
      have hne9 : (sg3 ++ [v]).isEmpty = false := by simp
      replace q1 := r2 _ q1 (apart N q1 q4 (by simp))
      replace q2 := r2 _ q2 (apart2 N q2 q4 (fun e => by rw [e] at doc; cases doc))
      replace q3 := r2 _ q3 (apart2 N q3 q4 (fun e => by rw [e] at dcl; cases dcl))
      clear N q4
      k_dflt kn_enter
      (try ((with_reducible show wpAny _ _ (execs _ _) _ _ _); (try dsimp only); k_fold))
      k_steps
      exact hret _ _ _ _ ⟨rfl, List.mem_cons_self, fun p hp hne => .tail _ (r2 p hp hne)⟩ (by k_asm) (by k_asm)
  · have := hr2 p hp hne
    simp only [List.mem_cons, this, or_true]
end
end
section
section

set_option maxRecDepth 100000 in
set_option maxHeartbeats 8000000 in
theorem c_push {w : World} {loose mean mg mb} {news : Led} {X d P : Addr} {ln : Int} {t : Tok} {ins : Value} {a0 a1 a2 a3 a4 : Tok} {pb : List Value} {nP : Nat} {v : Value} (hX : (X, instObj 52 d) ∈ news) (hD : (d, lexD w ln t ins P a0 a1 a2 a3 a4) ∈ news) (hP : (P, W.listOf pb.toArray nP) ∈ news) (hz : pb.length ≤ 100) :
    Ctr w loose mean mg mb 2 20 49 [.ref X, v] [] news (fun r n => r = .none ∧ (P, W.listOf (pb ++ [v]).toArray (nP + 1)) ∈ n ∧ ∀ p ∈ news, p.1 ≠ P → p ∈ n) := by
  unfold Ctr
  k_fill
  intro dp un gd env outer A₀ base h₀ L m s R B F X N T hf hke hd hu hret
  first | (refine e0a5 (pull N hP) ?_; intro rest N0 hr1 hr2 hr3) | (refine e1a4 (pull N hP) ?_; intro rest N0 hr1 hr2 hr3) | (refine e2a3 (pull N hP) ?_; intro rest N0 hr1 hr2 hr3) | (refine e3a2 (pull N hP) ?_; intro rest N0 hr1 hr2 hr3) | (refine e4a1 (pull N hP) ?_; intro rest N0 hr1 hr2 hr3) | obtain ⟨rest, N0, hr1, hr2, hr3⟩ := pull N hP
  have hX0 := hr2 _ hX (apart N hX hP (by simp))
  have hD0 := hr2 _ hD (apart N hD hP (by simp))
  clear N hP hX hD
  k_dflt cell_enter
  (try ((with_reducible show wpAny _ _ (execs _ _) _ _ _); (try dsimp only); k_fold))
  k_steps
  exact hret _ _ _ _ ⟨rfl, List.mem_cons_self, fun p hp hne => .tail _ (hr2 p hp hne)⟩ (by k_asm) (by k_asm)
set_option maxRecDepth 100000 in
set_option maxHeartbeats 8000000 in
theorem c_pop {w : World} {loose mean mg mb} {news : Led} {X d P : Addr} {ln : Int} {t : Tok} {ins : Value} {a0 a1 a2 a3 a4 : Tok} {pb : List Value} {nP : Nat} {v : Value} (hX : (X, instObj 52 d) ∈ news) (hD : (d, lexD w ln t ins P a0 a1 a2 a3 a4) ∈ news) (hP : (P, W.listOf (v :: pb).toArray nP) ∈ news) (hz : pb.length ≤ 100) :
    Ctr w loose mean mg mb 2 20 42 [.ref X] [] news (fun r n => r = v ∧ (P, W.listOf pb.toArray (nP + 1)) ∈ n ∧ ∀ p ∈ news, p.1 ≠ P → p ∈ n) := by
  unfold Ctr
  k_fill
  intro dp un gd env outer A₀ base h₀ L m s R B F X N T hf hke hd hu hret
  first | (refine e0a5 (pull N hP) ?_; intro rest N0 hr1 hr2 hr3) | (refine e1a4 (pull N hP) ?_; intro rest N0 hr1 hr2 hr3) | (refine e2a3 (pull N hP) ?_; intro rest N0 hr1 hr2 hr3) | (refine e3a2 (pull N hP) ?_; intro rest N0 hr1 hr2 hr3) | (refine e4a1 (pull N hP) ?_; intro rest N0 hr1 hr2 hr3) | obtain ⟨rest, N0, hr1, hr2, hr3⟩ := pull N hP
  have hX0 := hr2 _ hX (apart N hX hP (by simp))
  have hD0 := hr2 _ hD (apart N hD hP (by simp))
  have hz1 : (v :: pb).length ≤ 101 := by simp; (first | lia | omega)
  clear N hP hX hD
  k_dflt cell_enter
  (try ((with_reducible show wpAny _ _ (execs _ _) _ _ _); (try dsimp only); k_fold))
  k_steps
  · exfalso; (rename Array.isEmpty _ = true => h9); simp at h9
  exact hret _ _ _ _ ⟨rfl, List.mem_cons_self, fun p hp hne => .tail _ (hr2 p hp hne)⟩ (by k_asm) (by k_asm)
end
end
section
local macro_rules | `(tactic| walk_at "callWith ref") => `(tactic| (k_here; k_dflt (first
  | (refine' callWith_F ?k1 ?_; (case k1 => exact FnAt.of (by k_asm) (by k_mem)); k_whole)
  | (refine' callWith_F0 ?k1 ?_; (case k1 => exact FnAt.of (by k_asm) (by k_mem)); k_whole; try dsimp only [List.nil_append, List.cons_append]))))
local macro_rules | `(tactic| walk_at "call ref") => `(tactic| (k_here; (with_reducible show wpAny _ _ (call (Value.ref (LexIds.f _)) _ _) _ _ _); refine Hold.out ?_))
section

set_option maxRecDepth 100000 in
set_option maxHeartbeats 8000000 in
theorem c_read {w : World} {loose mean mg mb} {news : Led} {X : LexIds} {ln : Int} {sg : List Value} {c : Str} {tc : Tok} (H : LexAt w X ln (sg ++ [.str c tc]) news) (P : Piece w loose mean mg mb X) (hz : sg.length ≤ 800) :
    Ctr w loose mean mg mb 3 40 35 [.ref X.x] [] news (fun r n => r = .str c tc ∧ LexAt w X (if c = Str.ofString "\n" then ln + 1 else ln) sg n ∧ ∀ p ∈ news, p.1 ≠ X.d → p.1 ≠ X.G → p ∈ n) := by
  unfold Ctr
  k_fill
  intro dp un gd env outer A₀ base h₀ L m s R B F X0 N T hf hke hd hu hret
  refine Small.go ?_
  intro gSm hSm
  obtain ⟨hx, ⟨td, hdd⟩, hxs, hds, hff, hcc, hcl, ⟨nG, hG⟩⟩ := H
  refine hSm ?_
  clear hSm gSm
  k_dflt cell_enter
  (try ((with_reducible show wpAny _ _ (execs _ _) _ _ _); (try dsimp only); k_fold))
  k_steps
  refine Hold.intro ?_
  k_dflt (refine' wpAny_call (Ctr.use (f := X.f) ?B ?F ?X ?N ?T ?hf ?hk ?hd ?hu ((P.spec news (sg ++ [.str c tc]) nG _ hff hcc hcl hG ?z).2 sg _ rfl) ?_); (case B => k_asm); (case F => k_asm); (case X => k_asm); (case N => k_asm); (case T => k_asm); (case hf => first | exact rfl | assumption); (case hk => first | exact rfl | assumption); (case hd => ktr_room); (case hu => ktr_units); (case z => (simp only [List.length_append, List.length_cons, List.length_nil]; (first | lia | omega))))
  intro r9 n9 h9 tk9 P9 F9 N9
  first | (refine e0a3 (P9) ?_; intro e1 hG9 hk9; (try clear P9)) | (refine e1a2 (P9) ?_; intro e1 hG9 hk9; (try clear P9)) | (refine e2a1 (P9) ?_; intro e1 hG9 hk9; (try clear P9)) | obtain ⟨e1, hG9, hk9⟩ := P9
  subst e1
  dsimp only
  obtain ⟨vsoc, hoc⟩ := P.hoc
  have q1 := hk9 _ hx (apart N hx hG (by simp))
  have q2 := hk9 _ hdd (apart N hdd hG (by simp))
  have q3 := hk9 _ hxs (apart N hxs hG (by simp))
  have q4 := hk9 _ hds (apart N hds hG (by simp))
  have q5 := hk9 _ hff (apart N hff hG (by simp))
  have q6 := hk9 _ hcc (apart2 N hcc hG (fun e => by rw [e] at hoc; cases hoc))
  have q7 := hk9 _ hcl (apart2 N hcl hG (fun e => by have := P.hocl; rw [e] at this; cases this))
  first | (refine e0a5 (pull N9 q2) ?_; intro rest N0 r1 r2 r3) | (refine e1a4 (pull N9 q2) ?_; intro rest N0 r1 r2 r3) | (refine e2a3 (pull N9 q2) ?_; intro rest N0 r1 r2 r3) | (refine e3a2 (pull N9 q2) ?_; intro rest N0 r1 r2 r3) | (refine e4a1 (pull N9 q2) ?_; intro rest N0 r1 r2 r3) | obtain ⟨rest, N0, r1, r2, r3⟩ := pull N9 q2
  have p1 := r2 _ q1 (apart N9 q1 q2 (by simp))
  have p3 := r2 _ q3 (apart N9 q3 q2 (by simp))
  have p4 := r2 _ q4 (apart2 N9 q4 q2 (fun e => by have := congrArg (fun o : Obj => match o.data with | .dict es _ => es.size | _ => 0) e; simp at this))
  have p5 := r2 _ q5 (apart N9 q5 q2 (by simp))
  have p6 := r2 _ q6 (apart2 N9 q6 q2 (fun e => by rw [e] at hoc; cases hoc))
  have p7 := r2 _ q7 (apart2 N9 q7 q2 (fun e => by have := P.hocl; rw [e] at this; cases this))
  have p8 := r2 _ hG9 (apart N9 hG9 q2 (by simp))
  clear N9
  (try ((with_reducible show wpAny _ _ (execs _ _) _ _ _); (try dsimp only); k_fold))
  k_steps
  · (rename (_ == _) = true => hc)
    have hc' : c = Str.ofString "\n" := by simpa using hc
    rw [if_pos hc'] at hret
    exact hret _ _ _ _ ⟨rfl, ⟨.tail _ p1, ⟨_, List.mem_cons_self⟩, .tail _ p3, .tail _ p4, .tail _ p5, .tail _ p6, .tail _ p7, ⟨_, .tail _ p8⟩⟩, fun p hp h1 h2 => .tail _ (r2 _ (hk9 _ hp h2) h1)⟩ (by k_asm) (by k_asm)
  · (rename (_ == _) = false => hc)
    have hc' : ¬ c = Str.ofString "\n" := by simpa using hc
    rw [if_neg hc'] at hret
    exact hret _ _ _ _ ⟨rfl, ⟨.tail _ p1, ⟨_, List.mem_cons_self⟩, .tail _ p3, .tail _ p4, .tail _ p5, .tail _ p6, .tail _ p7, ⟨_, .tail _ p8⟩⟩, fun p hp h1 h2 => .tail _ (r2 _ (hk9 _ hp h2) h1)⟩ (by k_asm) (by k_asm)
end
section

set_option maxRecDepth 100000 in
set_option maxHeartbeats 8000000 in
theorem c_read0 {w : World} {loose mean mg mb} {news : Led} {X : LexIds} {ln : Int} (H : LexAt w X ln [] news) (P : Piece w loose mean mg mb X) :
    Ctr w loose mean mg mb 3 40 35 [.ref X.x] [] news (fun r n => (∃ t, r = .str (Str.ofString "") t) ∧ n = news) := by
  unfold Ctr
  k_fill
  intro dp un gd env outer A₀ base h₀ L m s R B F X0 N T hf hke hd hu hret
  refine Small.go ?_
  intro gSm hSm
  obtain ⟨hx, ⟨td, hdd⟩, hxs, hds, hff, hcc, hcl, ⟨nG, hG⟩⟩ := H
  refine hSm ?_
  clear hSm gSm
  k_dflt cell_enter
  (try ((with_reducible show wpAny _ _ (execs _ _) _ _ _); (try dsimp only); k_fold))
  k_steps
  refine Hold.intro ?_
  k_dflt (refine' wpAny_call (Ctr.use (f := X.f) ?B ?F ?X ?N ?T ?hf ?hk ?hd ?hu ((P.spec news [] nG _ hff hcc hcl hG ?z).1 rfl) ?_); (case B => k_asm); (case F => k_asm); (case X => k_asm); (case N => k_asm); (case T => k_asm); (case hf => first | exact rfl | assumption); (case hk => first | exact rfl | assumption); (case hd => ktr_room); (case hu => ktr_units); (case z => (simp)))
  intro r9 n9 h9 tk9 P9 F9 N9
  obtain ⟨⟨t9, e1⟩, e2⟩ := P9
  subst e1
  subst e2
  dsimp only
  have b1 : (Str.ofString "" == Str.ofString "\n") = false := by decide
  (try ((with_reducible show wpAny _ _ (execs _ _) _ _ _); (try dsimp only); k_fold))
  k_steps
  exact hret _ _ _ _ ⟨⟨_, rfl⟩, rfl⟩ (by k_asm) (by k_asm)
end
end
section
section
set_option maxRecDepth 100000

def CEnd (h₀ : Heap) (L : Addr) (s : Shared) (n : Nat) (J : Nat → (Str → Option Value) → Led → Prop) (Q : Flow → Shared → Prop) (f : Flow) (s₃ : Shared) : Prop :=
  match f with
  | .ret v => Q (.ret v) s₃
  | .brk => Q .next s₃
  | _ => ∃ h' tk m₂ news₂ n', s₃ = { s with heap := h', toks := tk } ∧ Fr h₀ L h' m₂ ∧ News h₀ L h' news₂ ∧ n' < n ∧ J n' m₂ news₂

theorem fn35 {w : World} {h : Heap} (X : (Mine.hk.heap_1 w.params).In h) : ∃ og fd, h.get? 35 = some og ∧ og.data = .func fd := by
  have : ∃ og fd, (Mine.hk.heap_1 w.params).lookup 35 = some og ∧ og.data = .func fd := ⟨_, _, rfl, rfl⟩
  first | (refine e0a4 (this) ?_; intro og fd h1 h2; (try clear this)) | (refine e1a3 (this) ?_; intro og fd h1 h2; (try clear this)) | (refine e2a2 (this) ?_; intro og fd h1 h2; (try clear this)) | (refine e3a1 (this) ?_; intro og fd h1 h2; (try clear this)) | obtain ⟨og, fd, h1, h2⟩ := this
  exact ⟨og, fd, X _ _ h1, h2⟩

theorem for_ci {w : World} {loose : List Str} {mean : ExcName → Option Value} {mg mb : Str → Option Value} {dp un : Nat} {gd : Option (List Code)} {env : Env} {outer : List Env} {A₀ : Around} {base h₀ : Heap} {s : Shared} {E : Value → Shared → Prop} {Q : Flow → Shared → Prop}
    {x : Str} {px : Pos} {body orelse : List Stmt} {I : Addr} {X : LexIds} {m : Str → Option Value} {news : Led} {n : Nat} (J : Nat → (Str → Option Value) → Led → Prop)
    (B : Below A₀ base outer h₀) (F : Fr h₀ env.locals s.heap m) (X₀ : (Mine.hk.heap_1 w.params).In h₀) (N : News h₀ env.locals s.heap news) (T : Top topProg loose mean mg mb h₀) (hf : env.frame = some env.locals) (hk : env.scope.kind = .function) (hd : dp + 3 < recursionLimit) (hu : un + 50 < cLine)
    (P : Piece w loose mean mg mb X) (h0 : J n m news)
    (turn : ∀ n m₁ news₁ h, J n m₁ news₁ → Fr h₀ env.locals h m₁ → News h₀ env.locals h news₁ → ∃ ln sg c tc q t, c ≠ Str.ofString "" ∧ LexAt w X ln (sg ++ [.str c tc]) news₁ ∧ sg.length ≤ 800 ∧ (I, ciO q t) ∈ news₁ ∧ (q, methodObj (.ref 35) (.ref X.x)) ∈ news₁ ∧
      ∀ news₂ h₂ tk₂, LexAt w X (if c = Str.ofString "\n" then ln + 1 else ln) sg news₂ → (∀ p ∈ news₁, p.1 ≠ X.d → p.1 ≠ X.G → p ∈ news₂) → Fr h₀ env.locals h₂ (fun y => if y = x then some (.str c tc) else m₁ y) → News h₀ env.locals h₂ news₂ →
        wpAny (model Challenge.rw_wn0055_01.row.prog w) (topE dp un gd env outer) (execs body env) (CEnd h₀ env.locals s n J Q) E { s with heap := h₂, toks := tk₂ })
    (hx : env.kindOf x = some .local) (hp : (env.scope.kind == .class || (env.scope.kind == .module && env.locals != env.globals)) = false)
    (hE : PassesOwn (model Challenge.rw_wn0055_01.row.prog w) (topE dp un gd env outer) env E) :
    ForAt Challenge.rw_wn0055_01.row.prog w (topE dp un gd env outer) env (.Name x px) body orelse Q E (.ref I) s := by
  unfold ForAt
  refine codeAny_forLoop (fun n s' => ∃ h' tk m' news', s' = { s with heap := h', toks := tk } ∧ Fr h₀ env.locals h' m' ∧ News h₀ env.locals h' news' ∧ J n m' news') ?_ n ⟨s.heap, s.toks, m, news, rfl, F, N, h0⟩
  intro n s' zq1
  (try dsimp only)
  (try k_fold)
  first | (refine e0a8 (zq1) ?_; intro h' tk m' news' er4 F' N' J'; (try clear zq1); subst er4) | (refine e1a7 (zq1) ?_; intro h' tk m' news' er4 F' N' J'; (try clear zq1); subst er4) | (refine e2a6 (zq1) ?_; intro h' tk m' news' er4 F' N' J'; (try clear zq1); subst er4) | (refine e3a5 (zq1) ?_; intro h' tk m' news' er4 F' N' J'; (try clear zq1); subst er4) | (refine e4a4 (zq1) ?_; intro h' tk m' news' er4 F' N' J'; (try clear zq1); subst er4) | (refine e5a3 (zq1) ?_; intro h' tk m' news' er4 F' N' J'; (try clear zq1); subst er4) | obtain ⟨h', tk, m', news', rfl, F', N', J'⟩ := zq1
  refine Small.go ?_
  intro gSm hSm
  obtain ⟨ln, sg, c, tc, q, t, hne, HL, hz, hI, hq, hbody⟩ := turn n m' news' h' J' F' N'
  refine hSm ?_
  clear hSm gSm
  first | (refine e0a4 (fn35 (X₀.keeps F'.keep)) ?_; intro og fd hg hfd) | (refine e1a3 (fn35 (X₀.keeps F'.keep)) ?_; intro og fd hg hfd) | (refine e2a2 (fn35 (X₀.keeps F'.keep)) ?_; intro og fd hg hfd) | (refine e3a1 (fn35 (X₀.keeps F'.keep)) ?_; intro og fd hg hfd) | obtain ⟨og, fd, hg, hfd⟩ := fn35 (X₀.keeps F'.keep)
  refine ci_item (t := t) (c := c) (tc := tc) (N' _ hI).1 (N' _ hq).1 hg hfd hne ?_
  refine Ctr.use (dp := dp) (un := un + 1) (gd := gd) (env := env) (outer := outer) (f := 35) B F' X₀ N' T hf hk (by (first | lia | omega)) (by (first | lia | omega)) (c_read HL P hz) ?_
  intro r news₂ h₂ tk₂ zq2 F₂ N₂
  (try dsimp only)
  (try k_fold)
  first | (refine e0a3 (zq2) ?_; intro er0 HL₂ hk₂; (try clear zq2); subst er0) | (refine e1a2 (zq2) ?_; intro er0 HL₂ hk₂; (try clear zq2); subst er0) | (refine e2a1 (zq2) ?_; intro er0 HL₂ hk₂; (try clear zq2); subst er0) | obtain ⟨rfl, HL₂, hk₂⟩ := zq2
  have hI2 : (I, ciO q t) ∈ news₂ := hk₂ _ hI (let ⟨_, hd'⟩ := HL.hd; apart N' hI hd' (by simp)) (let ⟨_, hg'⟩ := HL.hG; apart N' hI hg' (by simp))
  refine ⟨rfl, (N₂ _ hI2).1, ?_⟩
  refine wpAny_assign_Name (wpAny_storeName_local hx F₂.ns (fun h₃ hn₃ hs₃ => ?_) hp)
  refine wpAny_mono (wpAny_passesOwn hE (hbody news₂ h₃ _ HL₂ hk₂ (F₂.set hn₃ hs₃) (N₂.set hs₃))) (fun f s₃ h₃ => ?_) fun _ _ e => e
  cases f with
  | ret v => exact h₃
  | brk => exact h₃
  | next =>
    refine Small.go ?_
    intro gSm hSm
    obtain ⟨h₄, tk₄, m₄, news₄, n', rfl, F₄, N₄, hn, hJ₄⟩ := h₃
    refine hSm ?_
    clear hSm gSm
    exact ⟨n', hn, h₄, tk₄, m₄, news₄, rfl, F₄, N₄, hJ₄⟩
  | cont =>
    refine Small.go ?_
    intro gSm hSm
    obtain ⟨h₄, tk₄, m₄, news₄, n', rfl, F₄, N₄, hn, hJ₄⟩ := h₃
    refine hSm ?_
    clear hSm gSm
    exact ⟨n', hn, h₄, tk₄, m₄, news₄, rfl, F₄, N₄, hJ₄⟩

def COne (Q : Flow → Shared → Prop) (f : Flow) (s₃ : Shared) : Prop :=
  match f with
  | .ret v => Q (.ret v) s₃
  | .brk => Q .next s₃
  | _ => False
theorem for_ci1 {w : World} {loose : List Str} {mean : ExcName → Option Value} {mg mb : Str → Option Value} {dp un : Nat} {gd : Option (List Code)} {env : Env} {outer : List Env} {A₀ : Around} {base h₀ : Heap} {s : Shared} {E : Value → Shared → Prop} {Q : Flow → Shared → Prop}
    {x : Str} {px : Pos} {body orelse : List Stmt} {I q : Addr} {t : Tok} {X : LexIds} {m : Str → Option Value} {news : Led} {ln : Int} {sg : List Value} {c : Str} {tc : Tok}
    (B : Below A₀ base outer h₀) (F : Fr h₀ env.locals s.heap m) (X₀ : (Mine.hk.heap_1 w.params).In h₀) (N : News h₀ env.locals s.heap news) (T : Top topProg loose mean mg mb h₀) (hI : (I, ciO q t) ∈ news) (hq : (q, methodObj (.ref 35) (.ref X.x)) ∈ news)
    (hf : env.frame = some env.locals) (hk : env.scope.kind = .function) (hd : dp + 3 < recursionLimit) (hu : un + 50 < cLine)
    (P : Piece w loose mean mg mb X) (hne : c ≠ Str.ofString "") (HL : LexAt w X ln (sg ++ [.str c tc]) news) (hz : sg.length ≤ 800)
    (turn : ∀ news₂ h₂ tk₂, LexAt w X (if c = Str.ofString "\n" then ln + 1 else ln) sg news₂ → (∀ p ∈ news, p.1 ≠ X.d → p.1 ≠ X.G → p ∈ news₂) → Fr h₀ env.locals h₂ (fun y => if y = x then some (.str c tc) else m y) → News h₀ env.locals h₂ news₂ →
        wpAny (model Challenge.rw_wn0055_01.row.prog w) (topE dp un gd env outer) (execs body env) (COne Q) E { s with heap := h₂, toks := tk₂ })
    (hx : env.kindOf x = some .local) (hp : (env.scope.kind == .class || (env.scope.kind == .module && env.locals != env.globals)) = false)
    (hE : PassesOwn (model Challenge.rw_wn0055_01.row.prog w) (topE dp un gd env outer) env E) :
    ForAt Challenge.rw_wn0055_01.row.prog w (topE dp un gd env outer) env (.Name x px) body orelse Q E (.ref I) s := by
  refine for_ci (n := 0) (fun n m' nw => n = 0 ∧ m' = m ∧ nw = news) B F X₀ N T hf hk hd hu P ⟨rfl, rfl, rfl⟩ ?_ hx hp hE
  intro n m₁ nw h₁ zq3 F2 N2
  (try dsimp only)
  (try k_fold)
  first | (refine e0a3 (zq3) ?_; intro er0 er1 er2; (try clear zq3); subst er0; subst er1; subst er2) | (refine e1a2 (zq3) ?_; intro er0 er1 er2; (try clear zq3); subst er0; subst er1; subst er2) | (refine e2a1 (zq3) ?_; intro er0 er1 er2; (try clear zq3); subst er0; subst er1; subst er2) | obtain ⟨rfl, rfl, rfl⟩ := zq3
  refine ⟨ln, sg, c, tc, q, t, hne, HL, hz, hI, hq, fun n2 h2 tk2 HL2 hk2 F3 N3 => wpAny_mono (turn n2 h2 tk2 HL2 hk2 F3 N3) (fun f s3 h => ?_) fun _ _ x => x⟩
  cases f <;> first | exact h | exact h.elim
end
end
section
local macro_rules | `(tactic| walk_at "exec For") => `(tactic| (k_here; k_dflt (refine For_start ?_)))
local macro_rules | `(tactic| walk_at "exec For Name Name cons nil") => `(tactic| (k_here; k_dflt (refine For_start ?_)))
local macro_rules | `(tactic| walk_at "call builtin:iter") => `(tactic| (k_here; k_dflt (refine' iter_two ?F ?N ?m ?_; (case F => k_asm); (case N => k_asm); (case m => k_mem)); intro I' h' F' N' l1))
local macro_rules | `(tactic| walk_at "CEnd") => `(tactic| (k_here; refine Hold.out ?_))
local macro_rules | `(tactic| walk_at "COne") => `(tactic| (k_here; refine Hold.out ?_))
local macro_rules | `(tactic| walk_at "call ref") => `(tactic| (k_here; k_dflt (refine' call_ret (f := 35) (C := c_read (by assumption) (by assumption) (by omega)) (ret := ?_)); (intro n9 h9 tk9 P9 F9 N9; obtain ⟨HL9, hk9⟩ := P9); (try dsimp only); (try k_sweep)))
section
set_option maxRecDepth 100000 in
set_option maxHeartbeats 8000000 in
theorem c_get {w : World} {loose mean mg mb} {news : Led} {X : LexIds} {ln : Int} {e0 : Bool} {c0 : Str} {ps : List (Bool × Str)} {term : Str} {rest : List Str} {nP : Nat} (H : LexF w X ln (encP ((e0, c0) :: ps) ++ term :: rest) news) (hP : (X.P, W.listOf [].toArray nP) ∈ news) (P : Piece w loose mean mg mb X) (hz : (encP ((e0, c0) :: ps) ++ term :: rest).length ≤ 700)
    (hpl : ∀ p ∈ (e0, c0) :: ps, Plain p.2) (hps : ps.length ≤ 20) (ht : (Builtin.Str.occurrences (Str.ofString "\n\t\r ") term 0 (Str.length (Str.ofString "\n\t\r ")) 1).isEmpty = false) (htn : term ≠ Str.ofString "") :
    Ctr w loose mean mg mb 6 90 42 [.ref X.x] [] news (fun r n => (∃ t, r = .str (txtP (Str.ofString "") ((e0, c0) :: ps)) t) ∧ LexF w X (if term = Str.ofString "\n" then ln + 1 else ln) rest n ∧ ∀ p ∈ news, p.1 ≠ X.d → p.1 ≠ X.G → p ∈ n) := by
  unfold Ctr
  k_fill
  intro dp un gd env outer A₀ base h₀ L m s R B F X0 N T hf hke hd hu hret
  have hpl0 := hpl _ (.head _)
  dsimp only at hpl0
  cases e0
  case' false =>
    first | (refine e0a5 (LexF.next (c := c0) (cs := encP ps ++ term :: rest) H) ?_; intro sg tc HL hsg hsl) | (refine e1a4 (LexF.next (c := c0) (cs := encP ps ++ term :: rest) H) ?_; intro sg tc HL hsg hsl) | (refine e2a3 (LexF.next (c := c0) (cs := encP ps ++ term :: rest) H) ?_; intro sg tc HL hsg hsl) | (refine e3a2 (LexF.next (c := c0) (cs := encP ps ++ term :: rest) H) ?_; intro sg tc HL hsg hsl) | (refine e4a1 (LexF.next (c := c0) (cs := encP ps ++ term :: rest) H) ?_; intro sg tc HL hsg hsl) | obtain ⟨sg, tc, HL, hsg, hsl⟩ := LexF.next (c := c0) (cs := encP ps ++ term :: rest) H
    have HL0 := HL
    have hzz : (encP ps ++ term :: rest).length ≤ 700 := by simp [encP] at hz ⊢; (first | lia | omega)
    refine Small.go ?_
    intro gSm hSm
    obtain ⟨hx, ⟨td, hdd⟩, hxs, hds, hff, hcc, hcl, ⟨nG, hG⟩⟩ := HL0
    refine hSm ?_
    clear hSm gSm
    k_dflt cell_enter
    k_steps
    refine Hold.intro ?_
    (rename Fr _ _ _ _ => F1)
    (rename News _ _ _ _ => N1)
    (rename Below (topE dp un gd env outer) _ _ _ => B1)
    (rename Frag.In _ _ => X1)
    (rename Top _ _ _ _ _ _ => T1)
    rename_i I4 h4 l4 h5
    refine ci_iter (N1 _ List.mem_cons_self).1 ?_
    k_dflt (refine for_ci1 B1 F1 X1 N1 T1 List.mem_cons_self (.tail _ List.mem_cons_self) rfl rfl ?hd ?hu P ?_ (LexAt.frame HL fun p hp _ => .tail _ (.tail _ hp)) ?_ ?_ rfl rfl (by passes_own); (case hd => ktr_room); (case hu => ktr_units))
    · exact hpl0.ne
    · (first | lia | omega)
    intro n3 h3 tk3 HL3 hk3 F3 N3
    have hI3 := hk3 _ List.mem_cons_self (apart N1 List.mem_cons_self (.tail _ (.tail _ hdd)) (by simp)) (apart N1 List.mem_cons_self (.tail _ (.tail _ hG)) (by simp))
    have hq3 := hk3 _ (.tail _ List.mem_cons_self) (apart N1 (.tail _ List.mem_cons_self) (.tail _ (.tail _ hdd)) (by simp)) (apart N1 (.tail _ List.mem_cons_self) (.tail _ (.tail _ hG)) (by simp))
    have hk3' : ∀ p ∈ news, p.1 ≠ X.d → p.1 ≠ X.G → p ∈ n3 := fun p hp h1 h2 => hk3 p (.tail _ (.tail _ hp)) h1 h2
    clear F1 N1
    have hx3 := HL3.hx
    obtain ⟨td3, hd3⟩ := HL3.hd
    have f1 := hpl0.ws
    have f2 := hpl0.qu
    have f3 := hpl0.bs
    have f4 := hpl0.len
    rw [if_neg hpl0.nl] at HL3 hd3
    clear hk3
    k_steps
  case' true =>
    first | (refine e0a5 (LexF.next (c := Str.ofString "\\") (cs := c0 :: (encP ps ++ term :: rest)) H) ?_; intro sg0 tc HL hsg0 hsl0) | (refine e1a4 (LexF.next (c := Str.ofString "\\") (cs := c0 :: (encP ps ++ term :: rest)) H) ?_; intro sg0 tc HL hsg0 hsl0) | (refine e2a3 (LexF.next (c := Str.ofString "\\") (cs := c0 :: (encP ps ++ term :: rest)) H) ?_; intro sg0 tc HL hsg0 hsl0) | (refine e3a2 (LexF.next (c := Str.ofString "\\") (cs := c0 :: (encP ps ++ term :: rest)) H) ?_; intro sg0 tc HL hsg0 hsl0) | (refine e4a1 (LexF.next (c := Str.ofString "\\") (cs := c0 :: (encP ps ++ term :: rest)) H) ?_; intro sg0 tc HL hsg0 hsl0) | obtain ⟨sg0, tc, HL, hsg0, hsl0⟩ := LexF.next (c := Str.ofString "\\") (cs := c0 :: (encP ps ++ term :: rest)) H
    have HL0 := HL
    have hzz : (encP ps ++ term :: rest).length ≤ 700 := by simp [encP] at hz ⊢; (first | lia | omega)
    refine Small.go ?_
    intro gSm hSm
    obtain ⟨hx, ⟨td, hdd⟩, hxs, hds, hff, hcc, hcl, ⟨nG, hG⟩⟩ := HL0
    refine hSm ?_
    clear hSm gSm
    k_dflt cell_enter
    k_steps
    refine Hold.intro ?_
    (rename Fr _ _ _ _ => F1)
    (rename News _ _ _ _ => N1)
    (rename Below (topE dp un gd env outer) _ _ _ => B1)
    (rename Frag.In _ _ => X1)
    (rename Top _ _ _ _ _ _ => T1)
    rename_i I4 h4 l4 h5
    refine ci_iter (N1 _ List.mem_cons_self).1 ?_
    k_dflt (refine for_ci1 B1 F1 X1 N1 T1 List.mem_cons_self (.tail _ List.mem_cons_self) rfl rfl ?hd ?hu P ?_ (LexAt.frame HL fun p hp _ => .tail _ (.tail _ hp)) ?_ ?_ rfl rfl (by passes_own); (case hd => ktr_room); (case hu => ktr_units))
    · decide
    · simp [encP] at hz; simp at hsl0; (first | lia | omega)
    intro n3 h3 tk3 HL3 hk3 F3 N3
    have hI3 := hk3 _ List.mem_cons_self (apart N1 List.mem_cons_self (.tail _ (.tail _ hdd)) (by simp)) (apart N1 List.mem_cons_self (.tail _ (.tail _ hG)) (by simp))
    have hq3 := hk3 _ (.tail _ List.mem_cons_self) (apart N1 (.tail _ List.mem_cons_self) (.tail _ (.tail _ hdd)) (by simp)) (apart N1 (.tail _ List.mem_cons_self) (.tail _ (.tail _ hG)) (by simp))
    have hk3' : ∀ p ∈ news, p.1 ≠ X.d → p.1 ≠ X.G → p ∈ n3 := fun p hp h1 h2 => hk3 p (.tail _ (.tail _ hp)) h1 h2
    clear F1 N1
    have b1 : (Builtin.Str.occurrences (Str.ofString "\n\t\r ") (Str.ofString "\\") 0 (Str.length (Str.ofString "\n\t\r ")) 1).isEmpty = true := by decide +kernel
    have b2 : (Str.ofString "\\" == Str.ofString "\"") = false := by decide
    have b3 : (Str.ofString "\\" == Str.ofString "\\") = true := by decide
    have b5 : ¬ Str.ofString "\\" = Str.ofString "\n" := by decide
    rw [if_neg b5] at HL3
    first | (refine e0a5 (LexF.next (c := c0) (cs := encP ps ++ term :: rest) ⟨sg0, HL3, hsg0⟩) ?_; intro sg tc7 HL7 hsg hsl) | (refine e1a4 (LexF.next (c := c0) (cs := encP ps ++ term :: rest) ⟨sg0, HL3, hsg0⟩) ?_; intro sg tc7 HL7 hsg hsl) | (refine e2a3 (LexF.next (c := c0) (cs := encP ps ++ term :: rest) ⟨sg0, HL3, hsg0⟩) ?_; intro sg tc7 HL7 hsg hsl) | (refine e3a2 (LexF.next (c := c0) (cs := encP ps ++ term :: rest) ⟨sg0, HL3, hsg0⟩) ?_; intro sg tc7 HL7 hsg hsl) | (refine e4a1 (LexF.next (c := c0) (cs := encP ps ++ term :: rest) ⟨sg0, HL3, hsg0⟩) ?_; intro sg tc7 HL7 hsg hsl) | obtain ⟨sg, tc7, HL7, hsg, hsl⟩ := LexF.next (c := c0) (cs := encP ps ++ term :: rest) ⟨sg0, HL3, hsg0⟩
    have hzs : sg.length ≤ 800 := by (first | lia | omega)
    clear HL3 hsg0
    have hx3 := HL7.hx
    refine Small.go ?_
    intro gSm hSm
    obtain ⟨td3, hd3⟩ := HL7.hd
    obtain ⟨nG3, hG3⟩ := HL7.hG
    refine hSm ?_
    clear hSm gSm
    have hn1 := apart N3 hI3 hd3 (by simp)
    have hn2 := apart N3 hI3 hG3 (by simp)
    have hn3 := apart N3 hq3 hd3 (by simp)
    have hn4 := apart N3 hq3 hG3 (by simp)
    have f1 := hpl0.ws
    have f2 := hpl0.qu
    have f3 := hpl0.bs
    have f4 := hpl0.len
    clear hk3
    k_steps
    rotate_left
    · (rename (_ = false) => ha)
      rw [b1] at ha
      exact Bool.noConfusion ha
    (rename LexAt _ _ _ _ _ => HL3)
    (rename (∀ p ∈ n3, _ ≠ _ → _ ≠ _ → _ ∈ _) => hk9)
    rw [if_neg hpl0.nl] at HL3
    replace hI3 := hk9 _ hI3 hn1 hn2
    replace hq3 := hk9 _ hq3 hn3 hn4
    replace hk3' : ∀ p ∈ news, p.1 ≠ X.d → p.1 ≠ X.G → p ∈ _ := fun p hp h1 h2 => hk9 p (hk3' p hp h1 h2) h1 h2
  all_goals (
    refine Hold.intro ?_
    (rename Fr _ _ _ _ => F4)
    (rename News _ _ _ _ => N4)
    refine ci_iter (N4 _ hI3).1 ?_
    k_dflt (refine for_ci (n := ps.length) (fun n m' nw => ∃ (qs : List (Bool × Str)) (tok : Str) (tt : Tok), n = qs.length ∧ (∀ p ∈ qs, Plain p.2) ∧ qs.length ≤ 20 ∧ tok.length + qs.length ≤ 30 ∧ LexF w X ln (encP qs ++ term :: rest) nw ∧ (encP qs ++ term :: rest).length ≤ 700 ∧ txtP tok qs = txtP (Str.ofString "" ++ c0) ps ∧ (∃ q t, (I4, ciO q t) ∈ nw ∧ (q, methodObj (.ref 35) (.ref X.x)) ∈ nw) ∧ (∀ p ∈ news, p.1 ≠ X.d → p.1 ≠ X.G → p ∈ nw) ∧ AllB [(Str.ofString "self", .ref X.x), (Str.ofString "token", .str tok tt), (Str.ofString "fiter", .ref I4)] m') B1 F4 X1 N4 T1 rfl rfl ?hd ?hu P ⟨ps, _, _, rfl, fun p hp => hpl p (.tail _ hp), hps, ?hl, ⟨sg, HL3, hsg⟩, hzz, rfl, ⟨_, _, hI3, hq3⟩, hk3', rfl, rfl, rfl, trivial⟩ ?_ rfl rfl (by passes_own); (case hd => ktr_room); (case hu => ktr_units); (case hl => (rw [Str.length_append, f4, show (Str.ofString "").length = 0 by decide]; (first | lia | omega))))
    intro n5 m5 nw5 h5 zq1 F5 N5
    (try dsimp only)
    (try k_fold)
    refine Small.go ?_
    intro gSm hSm
    obtain ⟨qs, tok, tt, rfl, hq1, hq2, ht3, HF5, hq4, hq5, ⟨q5, t5, hI5, hq6⟩, hk5, hA5⟩ := zq1
    refine hSm ?_
    clear hSm gSm
    clear F4 N4 HL3 hI3 hq3 hk3'
    (try clear F3)
    (try clear N3)
    match qs, hq1, hq2, ht3, HF5, hq4, hq5 with
    | [], _, _, _, HF5, _, hq5 =>
      first | (refine e0a5 (LexF.next (c := term) (cs := rest) HF5) ?_; intro sg5 tc5 HL5 hsg5 hsl5) | (refine e1a4 (LexF.next (c := term) (cs := rest) HF5) ?_; intro sg5 tc5 HL5 hsg5 hsl5) | (refine e2a3 (LexF.next (c := term) (cs := rest) HF5) ?_; intro sg5 tc5 HL5 hsg5 hsl5) | (refine e3a2 (LexF.next (c := term) (cs := rest) HF5) ?_; intro sg5 tc5 HL5 hsg5 hsl5) | (refine e4a1 (LexF.next (c := term) (cs := rest) HF5) ?_; intro sg5 tc5 HL5 hsg5 hsl5) | obtain ⟨sg5, tc5, HL5, hsg5, hsl5⟩ := LexF.next (c := term) (cs := rest) HF5
      refine ⟨ln, sg5, term, tc5, q5, t5, htn, HL5, by simp at hz; (first | lia | omega), hI5, hq6, fun n6 h6 tk6 HL6 hk6 F6 N6 => ?_⟩
      replace F6 := Fr.bindX F6 hA5
      have hx6 := HL6.hx
      obtain ⟨td6, hd6⟩ := HL6.hd
      clear F5 N5
      k_steps
      refine Hold.intro ?_
      dsimp only [CEnd, COne]
      k_steps
      refine hret _ _ _ _ ⟨⟨_, by (show Value.str tok tt = Value.str (txtP (Str.ofString "" ++ c0) ps) _); rw [← hq5]; rfl⟩, ⟨sg5, HL6, hsg5⟩, fun p hp h1 h2 => hk6 _ (hk5 _ hp h1 h2) h1 h2⟩ (by k_asm) (by k_asm)
    | (false, c) :: qs, hq1, hq2, ht3, HF5, hq4, hq5 =>
      first | (refine e0a5 (LexF.next (c := c) (cs := encP qs ++ term :: rest) HF5) ?_; intro sg5 tc5 HL5 hsg5 hsl5) | (refine e1a4 (LexF.next (c := c) (cs := encP qs ++ term :: rest) HF5) ?_; intro sg5 tc5 HL5 hsg5 hsl5) | (refine e2a3 (LexF.next (c := c) (cs := encP qs ++ term :: rest) HF5) ?_; intro sg5 tc5 HL5 hsg5 hsl5) | (refine e3a2 (LexF.next (c := c) (cs := encP qs ++ term :: rest) HF5) ?_; intro sg5 tc5 HL5 hsg5 hsl5) | (refine e4a1 (LexF.next (c := c) (cs := encP qs ++ term :: rest) HF5) ?_; intro sg5 tc5 HL5 hsg5 hsl5) | obtain ⟨sg5, tc5, HL5, hsg5, hsl5⟩ := LexF.next (c := c) (cs := encP qs ++ term :: rest) HF5
      have hpc : Plain c := hq1 _ (.head _)
      have g0 := hpc.ne
      have g1 := hpc.ws
      have g2 := hpc.qu
      have g3 := hpc.bs
      have g4 := hpc.len
      have g5 := hpc.nl
      have hq7 : (encP qs ++ term :: rest).length ≤ 699 := by simp [encP] at hq4 ⊢; (first | lia | omega)
      simp only [List.length_cons] at hq2 ht3
      refine ⟨ln, sg5, c, tc5, q5, t5, g0, HL5, by (first | lia | omega), hI5, hq6, fun n6 h6 tk6 HL6 hk6 F6 N6 => ?_⟩
      have hI7 := hk6 _ hI5 (let ⟨_, e⟩ := HL5.hd; apart N5 hI5 e (by simp)) (let ⟨_, e⟩ := HL5.hG; apart N5 hI5 e (by simp))
      have hq8 := hk6 _ hq6 (let ⟨_, e⟩ := HL5.hd; apart N5 hq6 e (by simp)) (let ⟨_, e⟩ := HL5.hG; apart N5 hq6 e (by simp))
      rw [if_neg g5] at HL6
      replace F6 := Fr.bindX F6 hA5
      have hx6 := HL6.hx
      obtain ⟨td6, hd6⟩ := HL6.hd
      clear F5 N5
      k_steps
      refine Hold.intro ?_
      (try (k_unfold; (try dsimp only)))
      unfold CEnd
      dsimp only
      refine ⟨_, _, _, _, qs.length, rfl, by k_asm, by k_asm, by simp, qs, tok ++ c, _, rfl, fun p hp => hq1 p (.tail _ hp), by (first | lia | omega), by rw [Str.length_append, g4]; (first | lia | omega), ⟨sg5, HL6, hsg5⟩, by (first | lia | omega), hq5, ⟨q5, t5, hI7, hq8⟩, fun p hp h1 h2 => hk6 _ (hk5 _ hp h1 h2) h1 h2, rfl, rfl, rfl, trivial⟩
    | (true, c) :: qs, hq1, hq2, ht3, HF5, hq4, hq5 =>
      first | (refine e0a5 (LexF.next (c := Str.ofString "\\") (cs := c :: (encP qs ++ term :: rest)) HF5) ?_; intro sg5 tc5 HL5 hsg5 hsl5) | (refine e1a4 (LexF.next (c := Str.ofString "\\") (cs := c :: (encP qs ++ term :: rest)) HF5) ?_; intro sg5 tc5 HL5 hsg5 hsl5) | (refine e2a3 (LexF.next (c := Str.ofString "\\") (cs := c :: (encP qs ++ term :: rest)) HF5) ?_; intro sg5 tc5 HL5 hsg5 hsl5) | (refine e3a2 (LexF.next (c := Str.ofString "\\") (cs := c :: (encP qs ++ term :: rest)) HF5) ?_; intro sg5 tc5 HL5 hsg5 hsl5) | (refine e4a1 (LexF.next (c := Str.ofString "\\") (cs := c :: (encP qs ++ term :: rest)) HF5) ?_; intro sg5 tc5 HL5 hsg5 hsl5) | obtain ⟨sg5, tc5, HL5, hsg5, hsl5⟩ := LexF.next (c := Str.ofString "\\") (cs := c :: (encP qs ++ term :: rest)) HF5
      have hpc : Plain c := hq1 _ (.head _)
      have g0 := hpc.ne
      have g1 := hpc.ws
      have g2 := hpc.qu
      have g3 := hpc.bs
      have g4 := hpc.len
      have g5 := hpc.nl
      have b0 : Str.ofString "\\" ≠ Str.ofString "" := by decide
      have b1 : (Builtin.Str.occurrences (Str.ofString "\n\t\r ") (Str.ofString "\\") 0 (Str.length (Str.ofString "\n\t\r ")) 1).isEmpty = true := by decide +kernel
      have b2 : (Str.ofString "\\" == Str.ofString "\"") = false := by decide
      have b3 : (Str.ofString "\\" == Str.ofString "\\") = true := by decide
      have b5 : ¬ Str.ofString "\\" = Str.ofString "\n" := by decide
      have hq7 : (encP qs ++ term :: rest).length ≤ 698 := by simp [encP] at hq4 ⊢; (first | lia | omega)
      simp only [List.length_cons] at hq2 ht3
      refine ⟨ln, sg5, _, tc5, q5, t5, b0, HL5, by simp [encP] at hq4; simp at hsl5; (first | lia | omega), hI5, hq6, fun n6 h6 tk6 HL6 hk6 F6 N6 => ?_⟩
      have hI7 := hk6 _ hI5 (let ⟨_, e⟩ := HL5.hd; apart N5 hI5 e (by simp)) (let ⟨_, e⟩ := HL5.hG; apart N5 hI5 e (by simp))
      have hq8 := hk6 _ hq6 (let ⟨_, e⟩ := HL5.hd; apart N5 hq6 e (by simp)) (let ⟨_, e⟩ := HL5.hG; apart N5 hq6 e (by simp))
      rw [if_neg b5] at HL6
      replace F6 := Fr.bindX F6 hA5
      clear HL5
      first | (refine e0a5 (LexF.next (c := c) (cs := encP qs ++ term :: rest) ⟨sg5, HL6, hsg5⟩) ?_; intro sg7 tc7 HL7 hsg7 hsl7) | (refine e1a4 (LexF.next (c := c) (cs := encP qs ++ term :: rest) ⟨sg5, HL6, hsg5⟩) ?_; intro sg7 tc7 HL7 hsg7 hsl7) | (refine e2a3 (LexF.next (c := c) (cs := encP qs ++ term :: rest) ⟨sg5, HL6, hsg5⟩) ?_; intro sg7 tc7 HL7 hsg7 hsl7) | (refine e3a2 (LexF.next (c := c) (cs := encP qs ++ term :: rest) ⟨sg5, HL6, hsg5⟩) ?_; intro sg7 tc7 HL7 hsg7 hsl7) | (refine e4a1 (LexF.next (c := c) (cs := encP qs ++ term :: rest) ⟨sg5, HL6, hsg5⟩) ?_; intro sg7 tc7 HL7 hsg7 hsl7) | obtain ⟨sg7, tc7, HL7, hsg7, hsl7⟩ := LexF.next (c := c) (cs := encP qs ++ term :: rest) ⟨sg5, HL6, hsg5⟩
      have hzs : sg7.length ≤ 800 := by (first | lia | omega)
      clear HL6 hsg5
      have hx6 := HL7.hx
      refine Small.go ?_
      intro gSm hSm
      obtain ⟨td6, hd6⟩ := HL7.hd
      obtain ⟨nG6, hG6⟩ := HL7.hG
      refine hSm ?_
      clear hSm gSm
      have hn1 := apart N6 hI7 hd6 (by simp)
      have hn2 := apart N6 hI7 hG6 (by simp)
      have hn3 := apart N6 hq8 hd6 (by simp)
      have hn4 := apart N6 hq8 hG6 (by simp)
      clear F5 N5
      k_steps
      · refine Hold.intro ?_
        (try (k_unfold; (try dsimp only)))
        unfold CEnd
        dsimp only
        (rename LexAt _ _ _ _ _ => HL9)
        (rename (∀ p ∈ n6, _ ≠ _ → _ ≠ _ → _ ∈ _) => hk9)
        rw [if_neg g5] at HL9
        refine ⟨_, _, _, _, qs.length, rfl, by k_asm, by k_asm, by simp, qs, tok ++ c, _, rfl, fun p hp => hq1 p (.tail _ hp), by (first | lia | omega), by rw [Str.length_append, g4]; (first | lia | omega), ⟨sg7, HL9, hsg7⟩, by (first | lia | omega), hq5, ⟨q5, t5, hk9 _ hI7 hn1 hn2, hk9 _ hq8 hn3 hn4⟩, fun p hp h1 h2 => hk9 _ (hk6 _ (hk5 _ hp h1 h2) h1 h2) h1 h2, rfl, rfl, rfl, trivial⟩
      · (rename (_ = false) => ha)
        rw [b1] at ha
        exact Bool.noConfusion ha)
end
section
set_option maxRecDepth 100000 in
set_option maxHeartbeats 8000000 in
theorem c_getq {w : World} {loose mean mg mb} {news : Led} {X : LexIds} {ln : Int} {ps : List Str} {rest : List Str} {nP : Nat} (H : LexF w X ln (Str.ofString "\"" :: (ps ++ Str.ofString "\"" :: rest)) news) (hP : (X.P, W.listOf [].toArray nP) ∈ news) (P : Piece w loose mean mg mb X) (hz : (ps ++ Str.ofString "\"" :: rest).length ≤ 690)
    (hpl : ∀ p ∈ ps, Plain p) (hps : ps.length ≤ 20) :
    Ctr w loose mean mg mb 6 90 42 [.ref X.x] [] news (fun r n => (∃ t, r = .str (ps.foldl (· ++ ·) (Str.ofString "")) t) ∧ LexF w X ln rest n ∧ ∀ p ∈ news, p.1 ≠ X.d → p.1 ≠ X.G → p ∈ n) := by
  unfold Ctr
  k_fill
  intro dp un gd env outer A₀ base h₀ L m s R B F X0 N T hf hke hd hu hret
  first | (refine e0a5 (LexF.next (c := Str.ofString "\"") (cs := ps ++ Str.ofString "\"" :: rest) H) ?_; intro sg tc HL hsg hsl) | (refine e1a4 (LexF.next (c := Str.ofString "\"") (cs := ps ++ Str.ofString "\"" :: rest) H) ?_; intro sg tc HL hsg hsl) | (refine e2a3 (LexF.next (c := Str.ofString "\"") (cs := ps ++ Str.ofString "\"" :: rest) H) ?_; intro sg tc HL hsg hsl) | (refine e3a2 (LexF.next (c := Str.ofString "\"") (cs := ps ++ Str.ofString "\"" :: rest) H) ?_; intro sg tc HL hsg hsl) | (refine e4a1 (LexF.next (c := Str.ofString "\"") (cs := ps ++ Str.ofString "\"" :: rest) H) ?_; intro sg tc HL hsg hsl) | obtain ⟨sg, tc, HL, hsg, hsl⟩ := LexF.next (c := Str.ofString "\"") (cs := ps ++ Str.ofString "\"" :: rest) H
  have HL0 := HL
  refine Small.go ?_
  intro gSm hSm
  obtain ⟨hx, ⟨td, hdd⟩, hxs, hds, hff, hcc, hcl, ⟨nG, hG⟩⟩ := HL0
  refine hSm ?_
  clear hSm gSm
  k_dflt cell_enter
  k_steps
  refine Hold.intro ?_
  (rename Fr _ _ _ _ => F1)
  (rename News _ _ _ _ => N1)
  (rename Below (topE dp un gd env outer) _ _ _ => B1)
  (rename Frag.In _ _ => X1)
  (rename Top _ _ _ _ _ _ => T1)
  rename_i I4 h4 l4 h5
  refine ci_iter (N1 _ List.mem_cons_self).1 ?_
  have b0 : Str.ofString "\"" ≠ Str.ofString "" := by decide
  have b1 : (Builtin.Str.occurrences (Str.ofString "\n\t\r ") (Str.ofString "\"") 0 (Str.length (Str.ofString "\n\t\r ")) 1).isEmpty = true := by decide +kernel
  have b2 : (Str.ofString "\"" == Str.ofString "\"") = true := by decide
  have b5 : ¬ Str.ofString "\"" = Str.ofString "\n" := by decide
  k_dflt (refine for_ci1 B1 F1 X1 N1 T1 List.mem_cons_self (.tail _ List.mem_cons_self) rfl rfl ?hd ?hu P b0 (LexAt.frame HL fun p hp _ => .tail _ (.tail _ hp)) ?_ ?_ rfl rfl (by passes_own); (case hd => ktr_room); (case hu => ktr_units))
  · (first | lia | omega)
  intro n3 h3 tk3 HL3 hk3 F3 N3
  have hI3 := hk3 _ List.mem_cons_self (apart N1 List.mem_cons_self (.tail _ (.tail _ hdd)) (by simp)) (apart N1 List.mem_cons_self (.tail _ (.tail _ hG)) (by simp))
  have hq3 := hk3 _ (.tail _ List.mem_cons_self) (apart N1 (.tail _ List.mem_cons_self) (.tail _ (.tail _ hdd)) (by simp)) (apart N1 (.tail _ List.mem_cons_self) (.tail _ (.tail _ hG)) (by simp))
  have hk3' : ∀ p ∈ news, p.1 ≠ X.d → p.1 ≠ X.G → p ∈ n3 := fun p hp h1 h2 => hk3 p (.tail _ (.tail _ hp)) h1 h2
  clear F1 N1
  have hx3 := HL3.hx
  obtain ⟨td3, hd3⟩ := HL3.hd
  rw [if_neg b5] at HL3 hd3
  clear hk3
  k_steps
  rotate_left
  · (rename (_ = false) => ha)
    rw [b1] at ha
    exact Bool.noConfusion ha
  refine Hold.intro ?_
  (rename Fr _ _ _ _ => F4)
  (rename News _ _ _ _ => N4)
  refine ci_iter (N4 _ hI3).1 ?_
  k_dflt (refine for_ci (n := ps.length) (fun n m' nw => ∃ (qs : List Str) (tok : Str) (tt : Tok), n = qs.length ∧ (∀ p ∈ qs, Plain p) ∧ qs.length ≤ 20 ∧ tok.length + qs.length ≤ 30 ∧ LexF w X ln (qs ++ Str.ofString "\"" :: rest) nw ∧ (qs ++ Str.ofString "\"" :: rest).length ≤ 700 ∧ qs.foldl (· ++ ·) tok = ps.foldl (· ++ ·) (Str.ofString "") ∧ (∃ q t, (I4, ciO q t) ∈ nw ∧ (q, methodObj (.ref 35) (.ref X.x)) ∈ nw) ∧ (∀ p ∈ news, p.1 ≠ X.d → p.1 ≠ X.G → p ∈ nw) ∧ AllB [(Str.ofString "self", .ref X.x), (Str.ofString "token", .str tok tt), (Str.ofString "fiter", .ref I4)] m') B1 F4 X1 N4 T1 rfl rfl ?hd ?hu P ⟨ps, _, _, rfl, hpl, hps, ?hl, ⟨sg, HL3, hsg⟩, by (first | lia | omega), rfl, ⟨_, _, hI3, hq3⟩, hk3', rfl, rfl, rfl, trivial⟩ ?_ rfl rfl (by passes_own); (case hd => ktr_room); (case hu => ktr_units); (case hl => (rw [show (Str.ofString "").length = 0 by decide]; (first | lia | omega))))
  intro n5 m5 nw5 h5 zq1 F5 N5
  (try dsimp only)
  (try k_fold)
  refine Small.go ?_
  intro gSm hSm
  obtain ⟨qs, tok, tt, rfl, hq1, hq2, ht3, HF5, hq4, hq5, ⟨q5, t5, hI5, hq6⟩, hk5, hA5⟩ := zq1
  refine hSm ?_
  clear hSm gSm
  clear F4 N4 HL3 hI3 hq3 hk3'
  (try clear F3)
  (try clear N3)
  match qs, hq1, hq2, ht3, HF5, hq4, hq5 with
  | [], _, _, _, HF5, _, hq5 =>
    first | (refine e0a5 (LexF.next (c := Str.ofString "\"") (cs := rest) HF5) ?_; intro sg5 tc5 HL5 hsg5 hsl5) | (refine e1a4 (LexF.next (c := Str.ofString "\"") (cs := rest) HF5) ?_; intro sg5 tc5 HL5 hsg5 hsl5) | (refine e2a3 (LexF.next (c := Str.ofString "\"") (cs := rest) HF5) ?_; intro sg5 tc5 HL5 hsg5 hsl5) | (refine e3a2 (LexF.next (c := Str.ofString "\"") (cs := rest) HF5) ?_; intro sg5 tc5 HL5 hsg5 hsl5) | (refine e4a1 (LexF.next (c := Str.ofString "\"") (cs := rest) HF5) ?_; intro sg5 tc5 HL5 hsg5 hsl5) | obtain ⟨sg5, tc5, HL5, hsg5, hsl5⟩ := LexF.next (c := Str.ofString "\"") (cs := rest) HF5
    refine ⟨ln, sg5, _, tc5, q5, t5, b0, HL5, by simp at hz; (first | lia | omega), hI5, hq6, fun n6 h6 tk6 HL6 hk6 F6 N6 => ?_⟩
    replace F6 := Fr.bindX F6 hA5
    have hx6 := HL6.hx
    obtain ⟨td6, hd6⟩ := HL6.hd
    rw [if_neg b5] at HL6
    clear F5 N5
    k_steps
    refine Hold.intro ?_
    dsimp only [CEnd, COne]
    k_steps
    refine hret _ _ _ _ ⟨⟨_, by rw [← hq5]; rfl⟩, ⟨sg5, HL6, hsg5⟩, fun p hp h1 h2 => hk6 _ (hk5 _ hp h1 h2) h1 h2⟩ (by k_asm) (by k_asm)
  | c :: qs, hq1, hq2, ht3, HF5, hq4, hq5 =>
    first | (refine e0a5 (LexF.next (c := c) (cs := qs ++ Str.ofString "\"" :: rest) HF5) ?_; intro sg5 tc5 HL5 hsg5 hsl5) | (refine e1a4 (LexF.next (c := c) (cs := qs ++ Str.ofString "\"" :: rest) HF5) ?_; intro sg5 tc5 HL5 hsg5 hsl5) | (refine e2a3 (LexF.next (c := c) (cs := qs ++ Str.ofString "\"" :: rest) HF5) ?_; intro sg5 tc5 HL5 hsg5 hsl5) | (refine e3a2 (LexF.next (c := c) (cs := qs ++ Str.ofString "\"" :: rest) HF5) ?_; intro sg5 tc5 HL5 hsg5 hsl5) | (refine e4a1 (LexF.next (c := c) (cs := qs ++ Str.ofString "\"" :: rest) HF5) ?_; intro sg5 tc5 HL5 hsg5 hsl5) | obtain ⟨sg5, tc5, HL5, hsg5, hsl5⟩ := LexF.next (c := c) (cs := qs ++ Str.ofString "\"" :: rest) HF5
    have hpc : Plain c := hq1 _ (.head _)
    have g0 := hpc.ne
    have g1 := hpc.ws
    have g2 := hpc.qu
    have g3 := hpc.bs
    have g4 := hpc.len
    have g5 := hpc.nl
    simp only [List.length_cons, List.cons_append] at hq2 ht3 hq4
    refine ⟨ln, sg5, c, tc5, q5, t5, g0, HL5, by (first | lia | omega), hI5, hq6, fun n6 h6 tk6 HL6 hk6 F6 N6 => ?_⟩
    have hI7 := hk6 _ hI5 (let ⟨_, e⟩ := HL5.hd; apart N5 hI5 e (by simp)) (let ⟨_, e⟩ := HL5.hG; apart N5 hI5 e (by simp))
    have hq8 := hk6 _ hq6 (let ⟨_, e⟩ := HL5.hd; apart N5 hq6 e (by simp)) (let ⟨_, e⟩ := HL5.hG; apart N5 hq6 e (by simp))
    rw [if_neg g5] at HL6
    replace F6 := Fr.bindX F6 hA5
    have hx6 := HL6.hx
    obtain ⟨td6, hd6⟩ := HL6.hd
    clear F5 N5
    k_steps
    refine Hold.intro ?_
    (try (k_unfold; (try dsimp only)))
    unfold CEnd
    dsimp only
    refine ⟨_, _, _, _, qs.length, rfl, by k_asm, by k_asm, by simp, qs, tok ++ c, _, rfl, fun p hp => hq1 p (.tail _ hp), by (first | lia | omega), by rw [Str.length_append, g4]; (first | lia | omega), ⟨sg5, HL6, hsg5⟩, by (first | lia | omega), hq5, ⟨q5, t5, hI7, hq8⟩, fun p hp h1 h2 => hk6 _ (hk5 _ hp h1 h2) h1 h2, rfl, rfl, rfl, trivial⟩
end
section
set_option maxRecDepth 100000 in
theorem for_ci0 {w : World} {loose : List Str} {mean : ExcName → Option Value} {mg mb : Str → Option Value} {dp un : Nat} {gd : Option (List Code)} {env : Env} {outer : List Env} {A₀ : Around} {base h₀ : Heap} {s : Shared} {E : Value → Shared → Prop} {Q : Flow → Shared → Prop}
    {x : Str} {px : Pos} {body orelse : List Stmt} {I q : Addr} {t : Tok} {X : LexIds} {m : Str → Option Value} {news : Led} {ln : Int}
    (B : Below A₀ base outer h₀) (F : Fr h₀ env.locals s.heap m) (X₀ : (Mine.hk.heap_1 w.params).In h₀) (N : News h₀ env.locals s.heap news) (T : Top topProg loose mean mg mb h₀) (hI : (I, ciO q t) ∈ news) (hq : (q, methodObj (.ref 35) (.ref X.x)) ∈ news)
    (hf : env.frame = some env.locals) (hk : env.scope.kind = .function) (hd : dp + 3 < recursionLimit) (hu : un + 50 < cLine)
    (P : Piece w loose mean mg mb X) (HL : LexAt w X ln [] news)
    (done : ∀ news₂ h₂ tk₂, (∀ p ∈ news, p.1 ≠ I → p ∈ news₂) → Fr h₀ env.locals h₂ m → News h₀ env.locals h₂ news₂ →
        wpAny (model Challenge.rw_wn0055_01.row.prog w) (topE dp un gd env outer) (execs orelse env) Q E { s with heap := h₂, toks := tk₂ })
    (hE : PassesOwn (model Challenge.rw_wn0055_01.row.prog w) (topE dp un gd env outer) env E) :
    ForAt Challenge.rw_wn0055_01.row.prog w (topE dp un gd env outer) env (.Name x px) body orelse Q E (.ref I) s := by
  unfold ForAt
  refine codeAny_forLoop (fun n s' => n = 0 ∧ s' = s) ?_ 0 ⟨rfl, rfl⟩
  intro n s' zq1
  (try dsimp only)
  (try k_fold)
  obtain ⟨rfl, rfl⟩ := zq1
  first | (refine e0a4 (fn35 (X₀.keeps F.keep)) ?_; intro og fd hg hfd) | (refine e1a3 (fn35 (X₀.keeps F.keep)) ?_; intro og fd hg hfd) | (refine e2a2 (fn35 (X₀.keeps F.keep)) ?_; intro og fd hg hfd) | (refine e3a1 (fn35 (X₀.keeps F.keep)) ?_; intro og fd hg hfd) | obtain ⟨og, fd, hg, hfd⟩ := fn35 (X₀.keeps F.keep)
  have hg0 : ∃ o0, h₀.get? 35 = some o0 := by obtain ⟨o, _, h, _⟩ := fn35 X₀; exact ⟨o, h⟩
  refine ci_end (t := t) rfl (N _ hI).1 (N _ hq).1 hg hfd ?_
  refine Ctr.use (dp := dp) (un := un + 1) (gd := gd) (env := env) (outer := outer) (f := 35) B F X₀ N T hf hk (by (first | lia | omega)) (by (first | lia | omega)) (c_read0 HL P) ?_
  intro r news₂ h₂ tk₂ zq2 F₂ N₂
  (try dsimp only)
  (try k_fold)
  refine Small.go ?_
  intro gSm hSm
  obtain ⟨⟨tc, rfl⟩, rfl⟩ := zq2
  obtain ⟨o0, hg0⟩ := hg0
  refine hSm ?_
  clear hSm gSm
  have e35 : og = o0 := by have := F.keep _ _ hg0; rw [hg] at this; exact Option.some.inj this
  refine ⟨⟨tc, rfl⟩, (N₂ _ hI).1, (N₂ _ hq).1, e35 ▸ F₂.keep _ _ hg0, fun h' hx => ?_⟩
  have hIL := (N₂ _ hI).2.1
  have hI0 := (N₂ _ hI).2.2
  refine wpAny_passesOwn hE (done (news₂.filter fun p => decide (p.1 ≠ I)) h' _ (fun p hp hne => List.mem_filter.mpr ⟨hp, by simpa using hne⟩) ?_ ?_)
  · exact ⟨F₂.ns.at' fun o e => hx _ o (Ne.symm hIL) e, fun b o e => hx b o (fun q => by rw [q, hI0] at e; cases e) (F₂.keep b o e), F₂.above⟩
  · intro p hp
    obtain ⟨hp, hne⟩ := List.mem_filter.mp hp
    exact ⟨hx _ _ (by simpa using hne) (N₂ p hp).1, (N₂ p hp).2⟩
set_option maxRecDepth 100000 in
set_option maxHeartbeats 8000000 in
theorem c_get0 {w : World} {loose mean mg mb} {news : Led} {X : LexIds} {ln : Int} {nP : Nat} (H : LexF w X ln [] news) (hP : (X.P, W.listOf [].toArray nP) ∈ news) (P : Piece w loose mean mg mb X) :
    Ctr w loose mean mg mb 6 90 42 [.ref X.x] [] news (fun r n => (∃ t, r = .str (Str.ofString "") t) ∧ ∀ p ∈ news, p ∈ n) := by
  unfold Ctr
  k_fill
  intro dp un gd env outer A₀ base h₀ L m s R B F X0 N T hf hke hd hu hret
  first | (refine e0a3 (H) ?_; intro sg HL hsg; (try clear H)) | (refine e1a2 (H) ?_; intro sg HL hsg; (try clear H)) | (refine e2a1 (H) ?_; intro sg HL hsg; (try clear H)) | obtain ⟨sg, HL, hsg⟩ := H
  cases hsg
  have HL0 := HL
  refine Small.go ?_
  intro gSm hSm
  obtain ⟨hx, ⟨td, hdd⟩, hxs, hds, hff, hcc, hcl, ⟨nG, hG⟩⟩ := HL0
  refine hSm ?_
  clear hSm gSm
  k_dflt cell_enter
  (try ((with_reducible show wpAny _ _ (execs _ _) _ _ _); (try dsimp only); k_fold))
  k_steps
  refine Hold.intro ?_
  (rename Fr _ _ _ _ => F1)
  (rename News _ _ _ _ => N1)
  (rename Below (topE dp un gd env outer) _ _ _ => B1)
  (rename Frag.In _ _ => X1)
  (rename Top _ _ _ _ _ _ => T1)
  rename_i I4 h4 l4 h5
  refine ci_iter (N1 _ List.mem_cons_self).1 ?_
  k_dflt (refine for_ci0 B1 F1 X1 N1 T1 List.mem_cons_self (.tail _ List.mem_cons_self) rfl rfl ?hd ?hu P (LexAt.frame HL fun p hp _ => .tail _ (.tail _ hp)) ?_ (by passes_own); (case hd => ktr_room); (case hu => ktr_units))
  intro n3 h3 tk3 hk3 F3 N3
  clear F1 N1
  (try ((with_reducible show wpAny _ _ (execs _ _) _ _ _); (try dsimp only); k_fold))
  k_steps
  exact hret _ _ _ _ ⟨⟨_, rfl⟩, fun p hp => hk3 p (.tail _ (.tail _ hp)) (fun e => by have := l4 _ (.tail _ hp); rw [e] at this; exact absurd this (Nat.lt_irrefl _))⟩ (by k_asm) (by k_asm)
end
end
section
section
theorem carried_strs {f : Str → Str} : ∀ {xs : List Str} {vs : List Value}, CarriedAll vs (xs.map fun a => PyData.str (f a)) → StrsAre vs (xs.map f)
  | [], _, h => by cases h; exact .nil
  | x :: xs, _, h => by
    cases h with
    | cons h1 h2 => cases h1 with | str y t => exact .cons _ _ (carried_strs h2)
def numT (v : Int) : Str := Str.ofString (toString v)
def wordT (v m : Int) : Str := if m.fmod 3 = 0 then numT v ++ Str.ofString " " else if m.fmod 3 = 1 then Str.ofString "\"" ++ numT v ++ Str.ofString "\"" else Txt.join (Str.ofString "") ((signs (numT v)).map fun a => Str.ofString "\\" ++ a) ++ Str.ofString "\n"
theorem numT_len {v : Int} (h1 : -20 ≤ v) (h2 : v ≤ 20) : (numT v).length ≤ 3 := by
  have : ∀ n : Fin 41, (numT ((n : Nat) - 20 : Int)).length ≤ 3 := by decide +kernel
  have h := this ⟨(v + 20).toNat, by (first | lia | omega)⟩
  have e : (((⟨(v + 20).toNat, by (first | lia | omega)⟩ : Fin 41) : Nat) - 20 : Int) = v := by dsimp only; (first | lia | omega)
  rwa [e] at h
local macro_rules | `(tactic| walk_at "binaryOp Add str str") => `(tactic| (k_here; k_dflt (refine' PyProof.Rows.add_str ?h ?z; (case z => ((have hb9 : (Str.ofString "\\").length = 1 := by decide); rw [PySem.sizeLine_eq]; omega))); intro t9 k9))
local macro_rules | `(tactic| walk_at "call builtin:str.join") => `(tactic| (k_here; refine Hold.out ?_))
theorem strs_slash (f : Str → Str) (z : Str) {ys : List Value} {i c : Nat} {t : Tok} (h : StrsAre ys (((signs z).take i).map f)) (hc : z.cps[i]? = some c) : StrsAre (ys ++ [.str (f ⟨#[c]⟩) t]) (((signs z).take (i + 1)).map f) := by
  have : (signs z)[i]? = some ⟨#[c]⟩ := by
    unfold signs
    rw [List.getElem?_map, Array.getElem?_toList, hc]; rfl
  rw [List.take_add_one, this, List.map_append]
  exact strs_append h (.cons _ _ .nil)
theorem word2_weight {v : Int} (h1 : -20 ≤ v) (h2 : v ≤ 20) : (((signs (numT v)).map fun a => Str.ofString "\\" ++ a).map (·.length)).sum + ((signs (numT v)).map fun a => Str.ofString "\\" ++ a).length ≤ 1000 := by
  have : ∀ n : Fin 41, (((signs (numT ((n : Nat) - 20 : Int))).map fun a => Str.ofString "\\" ++ a).map (·.length)).sum + ((signs (numT ((n : Nat) - 20 : Int))).map fun a => Str.ofString "\\" ++ a).length ≤ 1000 := by decide +kernel
  have h := this ⟨(v + 20).toNat, by (first | lia | omega)⟩
  have e : (((⟨(v + 20).toNat, by (first | lia | omega)⟩ : Fin 41) : Nat) - 20 : Int) = v := by dsimp only; (first | lia | omega)
  rwa [e] at h
theorem word2_len {v : Int} (h1 : -20 ≤ v) (h2 : v ≤ 20) : (Txt.join (Str.ofString "") ((signs (numT v)).map fun a => Str.ofString "\\" ++ a)).length ≤ 1000 := by
  have : ∀ n : Fin 41, (Txt.join (Str.ofString "") ((signs (numT ((n : Nat) - 20 : Int))).map fun a => Str.ofString "\\" ++ a)).length ≤ 1000 := by decide +kernel
  have h := this ⟨(v + 20).toNat, by (first | lia | omega)⟩
  have e : (((⟨(v + 20).toNat, by (first | lia | omega)⟩ : Fin 41) : Nat) - 20 : Int) = v := by dsimp only; (first | lia | omega)
  rwa [e] at h
set_option maxRecDepth 100000 in
set_option maxHeartbeats 8000000 in
theorem c_word {w : World} {loose mean mg mb} {news : Led} {v m0 : Int} {t1 t2 : Tok} (h1 : -20 ≤ v) (h2 : v ≤ 20) (h3 : 0 ≤ m0) (h4 : m0 ≤ 1000000) :
    Ctr w loose mean mg mb 3 40 94 [.int v t1, .int m0 t2] [] news (fun r n => (∃ t, r = .str (wordT v m0) t) ∧ Sub news n) := by
  unfold Ctr
  k_fill
  intro dp un gd env outer A₀ base h₀ L m s R B F X0 N T hf hke hd hu hret
  have hz := numT_len h1 h2
  unfold numT at hz
  k_dflt cell_enter
  (try ((with_reducible show wpAny _ _ (execs _ _) _ _ _); (try dsimp only); k_fold))
  k_steps
  · refine hret _ _ _ _ ⟨?_, Sub.refl _⟩ (by k_asm) (by k_asm)
    unfold wordT
    rw [if_pos (by assumption)]; exact ⟨_, rfl⟩
  · refine hret _ _ _ _ ⟨?_, Sub.refl _⟩ (by k_asm) (by k_asm)
    unfold wordT
    rw [if_neg (by assumption), if_pos (by assumption)]; exact ⟨_, rfl⟩
  · rename_i hb hc
    refine Hold.intro ?_
    refine comp_str (J := fun i ys nw => Sub news nw ∧ StrsAre ys (((signs (numT v)).take i).map fun a => Str.ofString "\\" ++ a)) (by rfl) (by k_asm) (by k_asm) (by decide) (by rfl) (by rfl) ?_ ⟨Sub.refl _, .nil⟩ ?_ ?_ ?_
    · show (numT v).length ≤ 1000
      have := numT_len h1 h2; (first | lia | omega)
    · intro i ys nw nw' zq1 hk
      (try dsimp only)
      (try k_fold)
      obtain ⟨hs, hy⟩ := zq1
      exact ⟨hs.kept hk, hy⟩
    · intro i v' I oI C oC D m₂ ys nw h tk E' s' zq2 hi zq3 hyl hcl hns hm zq4 F₂ N₂ off hne hoff
      (try dsimp only)
      (try k_fold)
      first | (refine e0a3 (zq2) ?_; intro g tk' er2; (try clear zq2); subst er2) | (refine e1a2 (zq2) ?_; intro g tk' er2; (try clear zq2); subst er2) | (refine e2a1 (zq2) ?_; intro g tk' er2; (try clear zq2); subst er2) | obtain ⟨g, tk', rfl⟩ := zq2
      first | (refine e0a4 (zq3) ?_; intro c u hc' er3; (try clear zq3); subst er3) | (refine e1a3 (zq3) ?_; intro c u hc' er3; (try clear zq3); subst er3) | (refine e2a2 (zq3) ?_; intro c u hc' er3; (try clear zq3); subst er3) | (refine e3a1 (zq3) ?_; intro c u hc' er3; (try clear zq3); subst er3) | obtain ⟨c, u, hc', rfl⟩ := zq3
      obtain ⟨hs, hy⟩ := zq4
      have hlen : Str.length ⟨#[c]⟩ = 1 := rfl
      (try ((with_reducible show wpAny _ _ (execs _ _) _ _ _); (try dsimp only); k_fold))
      k_steps
      refine Hold.intro ?_
      (try (k_unfold; (try dsimp only)))
      unfold ElEnd
      refine ⟨_, _, _, rfl, by k_asm, by k_asm, .head _, .tail _ (.head _), .tail _ (.tail _ (.head _)), trivial, fun p hp => .tail _ (.tail _ (.tail _ (hs p hp))), ?_⟩
      exact strs_slash _ _ hy hc'
    · intro C D oC m₁ ys nw h tk s' zq5 hyl zq6 hns F₂ N₂ off hCD hoff
      (try dsimp only)
      (try k_fold)
      refine Small.go ?_
      intro gSm hSm
      obtain ⟨g, rfl⟩ := zq5
      obtain ⟨hs, hy⟩ := zq6
      refine hSm ?_
      clear hSm gSm
      refine post_E F₂ N₂ hns off hCD fun h' F₃ N₃ => ?_
      have hy' : StrsAre ys ((signs (numT v)).map fun a => Str.ofString "\\" ++ a) := by
        have e : (signs (numT v)).take (numT v).cps.size = signs (numT v) := List.take_of_length_le (by unfold signs; simp)
        rw [← e]; exact hy
      have hw2 := word2_len h1 h2
      (try ((with_reducible show wpAny _ _ (execs _ _) _ _ _); (try dsimp only); k_fold))
      k_steps
      refine Hold.intro ?_
      refine join_listW (ys := (signs (numT v)).map fun a => Str.ofString "\\" ++ a) (News.isList N₃ (.head _)) hy' (by decide) (Nat.le_trans (word2_weight h1 h2) (by (first | lia | omega))) ?_
      intro t' k
      (try ((with_reducible show wpAny _ _ (execs _ _) _ _ _); (try dsimp only); k_fold))
      k_steps
      refine hret _ _ _ _ ⟨?_, fun p hp => .tail _ (hs p hp)⟩ (by k_asm) (by k_asm)
      unfold wordT
      rw [if_neg (by assumption), if_neg (by assumption)]; exact ⟨_, rfl⟩
end
end
section
section
abbrev rowO (ti : Str) (E : Addr) (u : Tok) : Obj := { cls := .type "tuple", data := .seq #[.str ti u, .ref E] }
inductive RowsAt (nw : Led) : List Value → List Addr → List (List (Int × Int)) → Prop
  | nil : RowsAt nw [] [] []
  | cons {t E : Addr} {vs : List Value} {n : Nat} {xs : List (Int × Int)} {u : Tok} {pv : List Value} {es : List Addr} {rs : List (List (Int × Int))} :
    (t, rowO (PF xs.length) E u) ∈ nw → (E, listOf vs.toArray n) ∈ nw → Its nw vs xs → RowsAt nw pv es rs → RowsAt nw (.ref t :: pv) (E :: es) (xs :: rs)
def Sorted (xs : List (Int × Int)) : Prop := ∀ (i j : Nat) y z, i ≤ j → xs[i]? = some y → xs[j]? = some z → y.1 ≤ z.1
theorem RowsAt.mono {nw nw' : Led} {pv : List Value} {es : List Addr} {rs : List (List (Int × Int))} (h : RowsAt nw pv es rs) (hk : ∀ p ∈ nw, (p.1 ∈ es ∧ p.2.cls = .type "list" ∧ ∃ xs n, p.2.data = .seq xs n) ∨ (p.2.cls = .type "tuple" ∧ ∃ xs n, p.2.data = .seq xs n) → p ∈ nw') : RowsAt nw' pv es rs := by
  induction h with
  | nil => exact .nil
  | cons h1 h2 h3 _ ih =>
    exact .cons (hk _ h1 (.inr ⟨rfl, _, _, rfl⟩)) (hk _ h2 (.inl ⟨.head _, rfl, _, _, rfl⟩)) (h3.mono fun t v p k u hm => hk _ hm (.inr ⟨rfl, _, _, rfl⟩)) (ih fun p hp hc => hk p hp (hc.imp (fun h => ⟨.tail _ h.1, h.2⟩) id))
theorem RowsAt.append {nw : Led} {pv pw : List Value} {es fs : List Addr} {rs ss : List (List (Int × Int))} (h : RowsAt nw pv es rs) (g : RowsAt nw pw fs ss) : RowsAt nw (pv ++ pw) (es ++ fs) (rs ++ ss) := by
  induction h with
  | nil => exact g
  | cons h1 h2 h3 _ ih => exact .cons h1 h2 h3 ih
theorem RowsAt.length {nw : Led} {pv : List Value} {es : List Addr} {rs : List (List (Int × Int))} (h : RowsAt nw pv es rs) : pv.length = rs.length ∧ es.length = rs.length := by
  induction h with
  | nil => exact ⟨rfl, rfl⟩
  | cons _ _ _ _ ih => simp [ih]
theorem RowsAt.addr {nw : Led} {pv : List Value} {es : List Addr} {rs : List (List (Int × Int))} (h : RowsAt nw pv es rs) : ∀ e ∈ es, ∃ q ∈ nw, q.1 = e := by
  induction h with
  | nil => intro v hv; cases hv
  | cons _ h2 _ _ ih =>
    intro v hv
    rcases List.mem_cons.mp hv with rfl | hv
    · exact ⟨_, h2, rfl⟩
    · exact ih v hv
theorem RowsAt.get {nw : Led} {pv : List Value} {es : List Addr} {rs : List (List (Int × Int))} (h : RowsAt nw pv es rs) : ∀ (j : Nat) (r : List (Int × Int)), rs[j]? = some r → ∃ t E vs n u, pv[j]? = some (.ref t) ∧ es[j]? = some E ∧ (t, rowO (PF r.length) E u) ∈ nw ∧ (E, listOf vs.toArray n) ∈ nw ∧ Its nw vs r := by
  induction h with
  | nil => intro j r hj; simp at hj
  | cons h1 h2 h3 _ ih =>
    intro j r hj
    cases j with
    | zero => simp at hj; subst hj; exact ⟨_, _, _, _, _, by simp, by simp, h1, h2, h3⟩
    | succ j => simp at hj; obtain ⟨t, E, vs, n, u, a, b, c⟩ := ih j r hj; exact ⟨t, E, vs, n, u, by simpa using a, by simpa using b, c⟩
theorem RowsAt.refs {nw : Led} {pv : List Value} {es : List Addr} {rs : List (List (Int × Int))} (h : RowsAt nw pv es rs) : ∀ v ∈ pv, ∃ T, v = .ref T := by
  induction h with
  | nil => intro v hv; cases hv
  | cons _ _ _ _ ih =>
    intro v hv
    rcases List.mem_cons.mp hv with rfl | hv
    · exact ⟨_, rfl⟩
    · exact ih v hv
/-- a newcomer among those that are ahead of the greater ones -/
def ins (r : List (Int × Int)) (y : Int × Int) : List (Int × Int) := r.take (cnt r y.1) ++ y :: r.drop (cnt r y.1)
def insAll (r : List (Int × Int)) (row : List (Int × Int)) : List (Int × Int) := row.foldl ins r
def above (r : List (Int × Int)) (y : Int × Int) : Int := (r.length : Int) - (cnt r y.1 : Int)
structure SSt where
  row : List (Int × Int)
  left : List (List (Int × Int))
  early : Int
  late : Int
def sStep (x : Int × Int) (st : SSt) (r : List (Int × Int)) : SSt :=
  if r.length = st.row.length then { row := insAll r st.row, left := st.left, early := st.early + above r x, late := st.late + (st.row.map (above r)).sum }
  else { st with left := st.left ++ [r], early := st.early + above r x }
def sAll (x : Int × Int) (rs : List (List (Int × Int))) : SSt := rs.foldl (sStep x) { row := [x], left := [], early := 0, late := 0 }
theorem ins_length (r : List (Int × Int)) (y : Int × Int) : (ins r y).length = r.length + 1 := by
  unfold ins
  have : cnt r y.1 ≤ r.length := List.countP_le_length
  rw [List.length_append, List.length_cons, List.length_take, List.length_drop]
  (first | lia | omega)
theorem sorted_tail {a : Int × Int} {r : List (Int × Int)} (h : Sorted (a :: r)) : Sorted r := fun i j y z hij hi hj => h (i + 1) (j + 1) y z (by (first | lia | omega)) (by simpa using hi) (by simpa using hj)
theorem sorted_head {a : Int × Int} {r : List (Int × Int)} (h : Sorted (a :: r)) : ∀ y ∈ r, a.1 ≤ y.1 := fun y hy => by
  obtain ⟨i, hi⟩ := List.mem_iff_getElem?.mp hy
  exact h 0 (i + 1) a y (by (first | lia | omega)) rfl (by simpa using hi)
theorem sorted_cons {a : Int × Int} {r : List (Int × Int)} (h : Sorted r) (ha : ∀ y ∈ r, a.1 ≤ y.1) : Sorted (a :: r) := by
  intro i j y z hij hi hj
  cases i with
  | zero =>
    simp at hi; subst hi
    cases j with
    | zero => simp at hj; subst hj; exact Int.le_refl _
    | succ j => exact ha z (List.mem_of_getElem? (by simpa using hj))
  | succ i =>
    cases j with
    | zero => (first | lia | omega)
    | succ j => exact h i j y z (by (first | lia | omega)) (by simpa using hi) (by simpa using hj)
theorem sorted_nil : Sorted [] := fun i j y z _ h _ => by simp at h
theorem sorted_one (y : Int × Int) : Sorted [y] := sorted_cons sorted_nil (by intro z hz; cases hz)
/-- in an ordered row a newcomer stands before the first that is greater -/
theorem ins_cons {a : Int × Int} {r : List (Int × Int)} {y : Int × Int} (h : Sorted (a :: r)) : ins (a :: r) y = if a.1 ≤ y.1 then a :: ins r y else y :: a :: r := by
  unfold ins cnt
  by_cases hle : a.1 ≤ y.1
  · rw [if_pos hle, List.countP_cons_of_pos (by simpa using hle)]
    simp
  · rw [if_neg hle, List.countP_cons_of_neg (by simpa using hle)]
    have : r.countP (fun z => decide (z.1 ≤ y.1)) = 0 := by
      rw [List.countP_eq_zero]
      intro z hz
      have := sorted_head h z hz
      simp; (first | lia | omega)
    rw [this]; simp
theorem ins_nil (y : Int × Int) : ins [] y = [y] := rfl
theorem mem_ins {r : List (Int × Int)} {y z : Int × Int} (h : z ∈ ins r y) : z = y ∨ z ∈ r := by
  unfold ins at h
  rcases List.mem_append.mp h with h | h
  · exact .inr (List.mem_of_mem_take h)
  · rcases List.mem_cons.mp h with h | h
    · exact .inl h
    · exact .inr (List.mem_of_mem_drop h)
theorem ins_sorted {r : List (Int × Int)} (y : Int × Int) (h : Sorted r) : Sorted (ins r y) := by
  induction r with
  | nil => exact sorted_one y
  | cons a r ih =>
    rw [ins_cons h]
    split
    · rename_i hle
      refine sorted_cons (ih (sorted_tail h)) fun z hz => ?_
      rcases mem_ins hz with rfl | hz
      · exact hle
      · exact sorted_head h z hz
    · rename_i hle
      refine sorted_cons h fun z hz => ?_
      rcases List.mem_cons.mp hz with rfl | hz
      · (first | lia | omega)
      · have := sorted_head h z hz; (first | lia | omega)
theorem insAll_length (row : List (Int × Int)) : ∀ r, (insAll r row).length = r.length + row.length := by
  induction row with
  | nil => intro r; rfl
  | cons y row ih => intro r; show (insAll (ins r y) row).length = _; rw [ih, ins_length, List.length_cons]; (first | lia | omega)
theorem insAll_sorted (row : List (Int × Int)) : ∀ {r}, Sorted r → Sorted (insAll r row) := by
  induction row with
  | nil => intro r h; exact h
  | cons y row ih => intro r h; exact ih (ins_sorted y h)
theorem insAll_snoc (r row : List (Int × Int)) (y : Int × Int) : insAll r (row ++ [y]) = ins (insAll r row) y := by
  unfold insAll; rw [List.foldl_append]; rfl
theorem sAll_snoc (x : Int × Int) (rs : List (List (Int × Int))) (r : List (Int × Int)) : sAll x (rs ++ [r]) = sStep x (sAll x rs) r := by
  unfold sAll; rw [List.foldl_append]; rfl
theorem sAll_take {x : Int × Int} {rs : List (List (Int × Int))} {i : Nat} (hi : i < rs.length) : sAll x (rs.take (i + 1)) = sStep x (sAll x (rs.take i)) rs[i] := by
  rw [List.take_add_one, List.getElem?_eq_getElem hi]
  exact sAll_snoc _ _ _
theorem sFold_inv (x : Int × Int) (rs : List (List (Int × Int))) : ∀ st : SSt, (rs.foldl (sStep x) st).row.length + ((rs.foldl (sStep x) st).left.map (·.length)).sum = st.row.length + (st.left.map (·.length)).sum + (rs.map (·.length)).sum ∧ st.row.length ≤ (rs.foldl (sStep x) st).row.length ∧ (rs.foldl (sStep x) st).left.length ≤ st.left.length + rs.length := by
  induction rs with
  | nil => intro st; simp
  | cons r rs ih =>
    intro st
    first | (refine e0a3 (ih (sStep x st r)) ?_; intro h1 h2 h3) | (refine e1a2 (ih (sStep x st r)) ?_; intro h1 h2 h3) | (refine e2a1 (ih (sStep x st r)) ?_; intro h1 h2 h3) | obtain ⟨h1, h2, h3⟩ := ih (sStep x st r)
    rw [List.foldl_cons]
    have e : (sStep x st r).row.length + ((sStep x st r).left.map (·.length)).sum = st.row.length + (st.left.map (·.length)).sum + r.length ∧ st.row.length ≤ (sStep x st r).row.length ∧ (sStep x st r).left.length ≤ st.left.length + 1 := by
      unfold sStep
      split
      · dsimp only; rw [insAll_length]; (first | lia | omega)
      · dsimp only; simp; (first | lia | omega)
    refine ⟨?_, ?_, ?_⟩
    · rw [h1, List.map_cons, List.sum_cons]; (first | lia | omega)
    · (first | lia | omega)
    · rw [List.length_cons]; (first | lia | omega)
theorem sum_take_le (rs : List (List (Int × Int))) (i : Nat) : ((rs.take i).map (·.length)).sum ≤ (rs.map (·.length)).sum := by
  conv => rhs; rw [← List.take_append_drop i rs, List.map_append, List.sum_append]
  (first | lia | omega)
theorem sAll_bounds (x : Int × Int) (rs : List (List (Int × Int))) (i : Nat) : 1 ≤ (sAll x (rs.take i)).row.length ∧ (sAll x (rs.take i)).row.length ≤ 1 + ((rs.take i).map (·.length)).sum ∧ (sAll x (rs.take i)).left.length ≤ i := by
  first | (refine e0a3 (sFold_inv x (rs.take i) { row := [x], left := [], early := 0, late := 0 }) ?_; intro h1 h2 h3) | (refine e1a2 (sFold_inv x (rs.take i) { row := [x], left := [], early := 0, late := 0 }) ?_; intro h1 h2 h3) | (refine e2a1 (sFold_inv x (rs.take i) { row := [x], left := [], early := 0, late := 0 }) ?_; intro h1 h2 h3) | obtain ⟨h1, h2, h3⟩ := sFold_inv x (rs.take i) { row := [x], left := [], early := 0, late := 0 }
  have := List.length_take_le i rs
  refine ⟨h2, ?_, ?_⟩
  · have h1 : (sAll x (rs.take i)).row.length + ((sAll x (rs.take i)).left.map (·.length)).sum = 1 + 0 + ((rs.take i).map (·.length)).sum := h1
    (first | lia | omega)
  · have h3 : (sAll x (rs.take i)).left.length ≤ 0 + (rs.take i).length := h3
    (first | lia | omega)
theorem len_le_sum {r : List (Int × Int)} {rs : List (List (Int × Int))} (h : r ∈ rs) : r.length ≤ (rs.map (·.length)).sum := by
  induction rs with
  | nil => cases h
  | cons a rs ih =>
    rw [List.map_cons, List.sum_cons]
    rcases List.mem_cons.mp h with rfl | h
    · (first | lia | omega)
    · have := ih h; (first | lia | omega)
theorem take_sum_succ' {rs : List (List (Int × Int))} {i : Nat} (hi : i < rs.length) : ((rs.take i).map (·.length)).sum + rs[i].length ≤ (rs.map (·.length)).sum := by
  have := sum_take_le rs (i + 1)
  rw [List.take_add_one, List.getElem?_eq_getElem hi] at this
  simp only [Option.toList_some, List.map_append, List.sum_append, List.map_cons, List.map_nil, List.sum_cons, List.sum_nil, Nat.add_zero] at this
  exact this
theorem PF_inj : ∀ a, a < 32 → ∀ b, b < 32 → 1 ≤ a → 1 ≤ b → (PF a == PF b) = true → a = b := by decide +kernel
theorem ltOf {d : Addr} : ∀ {l : Led}, AllLt d l → ∀ p ∈ l, p.1 < d
  | [], _, _, h => nomatch h
  | q :: r, x, p, h => by
    rcases List.mem_cons.mp h with rfl | h
    · exact x.1
    · exact ltOf x.2 p h
theorem nameL {g h : Heap} {L : Addr} {m : Str → Option Value} (F : Fr g L h m) : ∃ a b c, a = L ∧ b = g ∧ c = h := ⟨_, _, _, rfl, rfl, rfl⟩
theorem name4 {g h : Heap} {L : Addr} {a1 a2 a3 a4 : Addr} {o1 o2 o3 o4 : Obj} {news : Led} (N : News g L h ((a1, o1) :: (a2, o2) :: (a3, o3) :: (a4, o4) :: news)) : ∃ b1 b2 b3 q4, b1 = a1 ∧ b2 = a2 ∧ b3 = a3 ∧ q4 = o4 := ⟨_, _, _, _, rfl, rfl, rfl, rfl⟩
theorem name1 {g h : Heap} {L : Addr} {a1 : Addr} {o1 : Obj} {news : Led} (N : News g L h ((a1, o1) :: news)) : ∃ q4, q4 = o1 := ⟨_, rfl⟩
theorem name1a {g h : Heap} {L : Addr} {a1 : Addr} {o1 : Obj} {news : Led} (N : News g L h ((a1, o1) :: news)) : ∃ q4, q4 = a1 := ⟨_, rfl⟩
theorem name3 {g h : Heap} {L : Addr} {a1 a2 a3 : Addr} {o1 o2 o3 : Obj} {news : Led} (N : News g L h ((a1, o1) :: (a2, o2) :: (a3, o3) :: news)) : ∃ q4, q4 = a3 := ⟨_, rfl⟩
theorem nameN {g h : Heap} {L : Addr} {news : Led} (N : News g L h news) : ∃ q4, q4 = news := ⟨_, rfl⟩
theorem ints_take {f : Int × Int → Int} {ys : List Value} {row : List (Int × Int)} {j : Nat} {t : Tok} {z : Int} (h : IntsAre ys ((row.take j).map f)) (hj : j < row.length) (hz : z = f row[j]) : IntsAre (ys ++ [.int z t]) ((row.take (j + 1)).map f) := by
  rw [List.take_add_one, List.getElem?_eq_getElem hj, List.map_append]
  exact h.append (by rw [hz]; exact .cons _ _ .nil)
theorem strs_take {α : Type} {f : α → Str} {ys : List Value} {row : List α} {j : Nat} {t : Tok} {z : Str} (h : StrsAre ys ((row.take j).map f)) (hj : j < row.length) (hz : z = f row[j]) : StrsAre (ys ++ [.str z t]) ((row.take (j + 1)).map f) := by
  rw [List.take_add_one, List.getElem?_eq_getElem hj, List.map_append]
  exact strs_append h (by rw [hz]; exact .cons _ _ .nil)
/-- the facts on the ledger while rows are got -/
structure SF (w : World) (news : Led) (es : List Addr) (X d P ti : Addr) (ln : Int) (t : Tok) (ins : Value) (a0 a1 a2 a3 a4 : Tok) (x : Int × Int) (k u : Tok) (cc LL ER : Addr)
    (pv : List Value) (nP : Nat) (es1 : List Addr) (rs1 : List (List (Int × Int))) (rvs : List Value) (nr : Nat) (row : List (Int × Int)) (lvs : List Value) (nll : Nat) (es2 : List Addr) (left : List (List (Int × Int))) (oc : Obj) (nw : Led) : Prop where
  hX : (X, instObj 52 d) ∈ nw
  hD : (d, lexD w ln t ins P a0 a1 a2 a3 a4) ∈ nw
  hI : (ti, pairO x.1 x.2 k u) ∈ nw
  hP : (P, W.listOf pv.toArray nP) ∈ nw
  hR1 : RowsAt nw pv es1 rs1
  hER : (ER, W.listOf rvs.toArray nr) ∈ nw
  hIts : Its nw rvs row
  hLL : (LL, W.listOf lvs.toArray nll) ∈ nw
  hR2 : RowsAt nw lvs es2 left
  hcc : (cc, oc) ∈ nw
  base : ∀ p ∈ news, p.1 ≠ P → p.1 ∉ es → p ∈ nw
theorem SF.frame {w : World} {news : Led} {es : List Addr} {X d P ti : Addr} {ln : Int} {t : Tok} {ins : Value} {a0 a1 a2 a3 a4 : Tok} {x : Int × Int} {k u : Tok} {cc LL ER : Addr}
    {pv : List Value} {nP : Nat} {es1 : List Addr} {rs1 : List (List (Int × Int))} {rvs : List Value} {nr : Nat} {row : List (Int × Int)} {lvs : List Value} {nll : Nat} {es2 : List Addr} {left : List (List (Int × Int))} {oc : Obj} {nw nw' : Led}
    (H : SF w news es X d P ti ln t ins a0 a1 a2 a3 a4 x k u cc LL ER pv nP es1 rs1 rvs nr row lvs nll es2 left oc nw)
    (h : ∀ p ∈ nw, (p.2.cls = .type "tuple" ∧ ∃ xs n, p.2.data = .seq xs n) ∨ (p.2.cls = .type "list" ∧ ∃ xs n, p.2.data = .seq xs n) ∨ p.1 = X ∨ p.1 = d ∨ p.1 = cc ∨ (∃ q ∈ news, q.1 = p.1) → p ∈ nw') :
    SF w news es X d P ti ln t ins a0 a1 a2 a3 a4 x k u cc LL ER pv nP es1 rs1 rvs nr row lvs nll es2 left oc nw' where
  hX := h _ H.hX (.inr (.inr (.inl rfl)))
  hD := h _ H.hD (.inr (.inr (.inr (.inl rfl))))
  hI := h _ H.hI (.inl ⟨rfl, _, _, rfl⟩)
  hP := h _ H.hP (.inr (.inl ⟨rfl, _, _, rfl⟩))
  hR1 := H.hR1.mono fun p hp hc => h p hp (hc.elim (fun e => .inr (.inl e.2)) .inl)
  hER := h _ H.hER (.inr (.inl ⟨rfl, _, _, rfl⟩))
  hIts := H.hIts.mono fun t v p k u hm => h _ hm (.inl ⟨rfl, _, _, rfl⟩)
  hLL := h _ H.hLL (.inr (.inl ⟨rfl, _, _, rfl⟩))
  hR2 := H.hR2.mono fun p hp hc => h p hp (hc.elim (fun e => .inr (.inl e.2)) .inl)
  hcc := h _ H.hcc (.inr (.inr (.inr (.inr (.inl rfl)))))
  base := fun p hp h1 h2 => h p (H.base p hp h1 h2) (.inr (.inr (.inr (.inr (.inr ⟨p, hp, rfl⟩)))))
/-- the ledger once a row is got -/
structure SG (w : World) (news : Led) (es : List Addr) (X d P ti : Addr) (ln : Int) (t : Tok) (ins : Value) (a0 a1 a2 a3 a4 : Tok) (x : Int × Int) (k u : Tok) (cc LL ER : Addr)
    (pv : List Value) (nP : Nat) (es1 : List Addr) (rs1 : List (List (Int × Int))) (rvs : List Value) (nr : Nat) (row : List (Int × Int)) (lvs : List Value) (es2 : List Addr) (left : List (List (Int × Int)))
    (I : Addr) (oI : Obj) (t1 E1 : Addr) (u1 : Tok) (vs1 : List Value) (n1 : Nat) (r : List (Int × Int)) (nw : Led) : Prop where
  hX : (X, instObj 52 d) ∈ nw
  hD : (d, lexD w ln t ins P a0 a1 a2 a3 a4) ∈ nw
  hI : (ti, pairO x.1 x.2 k u) ∈ nw
  hP : (P, W.listOf pv.toArray nP) ∈ nw
  hR1 : RowsAt nw pv es1 rs1
  hER : (ER, W.listOf rvs.toArray nr) ∈ nw
  hIts : Its nw rvs row
  hR2 : RowsAt nw lvs es2 left
  base : ∀ p ∈ news, p.1 ≠ P → p.1 ∉ es → p ∈ nw
  hIt : (I, oI) ∈ nw
  hT : (t1, rowO (PF r.length) E1 u1) ∈ nw
  hE : (E1, W.listOf vs1.toArray n1) ∈ nw
  hIt1 : Its nw vs1 r
theorem turn_led {w : World} {news : Led} {es : List Addr} {X d P ti : Addr} {ln : Int} {t : Tok} {ins : Value} {a0 a1 a2 a3 a4 : Tok} {x : Int × Int} {k u : Tok} {cc LL ER : Addr}
    {pv1 : List Value} {nP : Nat} {es1 : List Addr} {rs1 : List (List (Int × Int))} {rvs : List Value} {nr : Nat} {row : List (Int × Int)} {lvs : List Value} {nll : Nat} {es2 : List Addr} {left : List (List (Int × Int))} {oc : Obj} {nw n9 : Led}
    {I : Addr} {oI : Obj} {t1 E1 : Addr} {u1 : Tok} {vs1 : List Value} {n1 : Nat} {r : List (Int × Int)} {g h h9 : Heap} {L : Addr} {c : Option Value} {pv : List Value} {nP0 : Nat}
    (N₁ : News g L h ((I, oI) :: nw)) (hc : oI.cls = .type "range_iterator") (hIc : I ≠ cc)
    (hX : (X, instObj 52 d) ∈ nw) (hD : (d, lexD w ln t ins P a0 a1 a2 a3 a4) ∈ nw) (hI : (ti, pairO x.1 x.2 k u) ∈ nw) (hP0 : (P, W.listOf pv.toArray nP0) ∈ nw) (hR1 : RowsAt nw pv1 es1 rs1) (hER : (ER, W.listOf rvs.toArray nr) ∈ nw) (hIts : Its nw rvs row) (hLL : (LL, W.listOf lvs.toArray nll) ∈ nw) (hR2 : RowsAt nw lvs es2 left)
    (hcc : (cc, oc) ∈ nw) (hbase : ∀ p ∈ news, p.1 ≠ P → p.1 ∉ es → p ∈ nw) (hT : (t1, rowO (PF r.length) E1 u1) ∈ nw) (hE : (E1, W.listOf vs1.toArray n1) ∈ nw) (hIt1 : Its nw vs1 r)
    (hoc : oc.data = .cell c) (hnd : (P :: LL :: ER :: ((E1 :: es1) ++ es2)).Nodup) (hnc : ∀ p ∈ news, p.1 ≠ cc ∧ p.1 ≠ LL)
    (N9 : News g L h9 n9) (hP : (P, W.listOf pv1.toArray nP) ∈ n9) (hk : ∀ p ∈ (I, oI) :: nw, p.1 ≠ P → p ∈ n9) :
    ∃ rest : Led, News g L h9 ((cc, oc) :: (LL, W.listOf lvs.toArray nll) :: rest) ∧ (∀ p ∈ rest, p.1 ≠ cc ∧ p.1 ≠ LL) ∧ LL ≠ cc ∧
      SG w news es X d P ti ln t ins a0 a1 a2 a3 a4 x k u cc LL ER pv1 nP es1 rs1 rvs nr row lvs es2 left I oI t1 E1 u1 vs1 n1 r rest := by
  simp only [List.nodup_cons, List.mem_cons, List.mem_append, List.cons_append, not_or] at hnd
  refine Small.go ?_
  intro gSm hSm
  obtain ⟨⟨hPL, hPR, hPE, hP1, hP2⟩, ⟨hLR, hLE, hL1, hL2⟩, ⟨hRE, hR1n, hR2n⟩, _⟩ := hnd
  refine hSm ?_
  clear hSm gSm
  have dc : ∀ {p : Addr × Obj}, p ∈ (I, oI) :: nw → (∀ c', p.2.data ≠ .cell c') → p.1 ≠ cc := fun {p} hp hne => apart2 (o := p.2) (o' := oc) N₁ hp (.tail _ hcc) (fun e => hne c (by rw [e]; exact hoc))
  have dP : ∀ {p : Addr × Obj}, p ∈ (I, oI) :: nw → p.2.cls ≠ .type "list" → p.1 ≠ P := fun {p} hp hne => apart (o := p.2) N₁ hp (.tail _ hP0) hne
  have dL : ∀ {p : Addr × Obj}, p ∈ (I, oI) :: nw → p.2.cls ≠ .type "list" → p.1 ≠ LL := fun {p} hp hne => apart (o := p.2) N₁ hp (.tail _ hLL) hne
  have hccL : LL ≠ cc := dc (.tail _ hLL) (by intro c'; simp)
  have hccP : P ≠ cc := dc (.tail _ hP0) (by intro c'; simp)
  have hcc9 : (cc, oc) ∈ n9 := hk _ (.tail _ hcc) (Ne.symm hccP)
  have hLL9 : (LL, W.listOf lvs.toArray nll) ∈ n9 := hk _ (.tail _ hLL) (Ne.symm hPL)
  first | (refine e0a5 (pull N9 hcc9) ?_; intro rest1 N2 r1 r2 r3) | (refine e1a4 (pull N9 hcc9) ?_; intro rest1 N2 r1 r2 r3) | (refine e2a3 (pull N9 hcc9) ?_; intro rest1 N2 r1 r2 r3) | (refine e3a2 (pull N9 hcc9) ?_; intro rest1 N2 r1 r2 r3) | (refine e4a1 (pull N9 hcc9) ?_; intro rest1 N2 r1 r2 r3) | obtain ⟨rest1, N2, r1, r2, r3⟩ := pull N9 hcc9
  have hLLr : (LL, W.listOf lvs.toArray nll) ∈ rest1 := r2 _ hLL9 hccL
  first | (refine e0a5 (pull (fun p hp => N2 p (.tail _ hp)) hLLr) ?_; intro rest N3 q1 q2 q3) | (refine e1a4 (pull (fun p hp => N2 p (.tail _ hp)) hLLr) ?_; intro rest N3 q1 q2 q3) | (refine e2a3 (pull (fun p hp => N2 p (.tail _ hp)) hLLr) ?_; intro rest N3 q1 q2 q3) | (refine e3a2 (pull (fun p hp => N2 p (.tail _ hp)) hLLr) ?_; intro rest N3 q1 q2 q3) | (refine e4a1 (pull (fun p hp => N2 p (.tail _ hp)) hLLr) ?_; intro rest N3 q1 q2 q3) | obtain ⟨rest, N3, q1, q2, q3⟩ := pull (fun p hp => N2 p (.tail _ hp)) hLLr
  have go : ∀ {p : Addr × Obj}, p ∈ n9 → p.1 ≠ cc → p.1 ≠ LL → p ∈ rest := fun {p} hp h1 h2 => q2 p (r2 p hp h1) h2
  have go1 : ∀ {p : Addr × Obj}, p ∈ (I, oI) :: nw → p.1 ≠ P → p.1 ≠ cc → p.1 ≠ LL → p ∈ rest := fun {p} hp h1 h2 h3 => go (hk p hp h1) h2 h3
  have goT : ∀ {p : Addr × Obj}, p ∈ (I, oI) :: nw → p.2.cls ≠ .type "list" → (∀ c', p.2.data ≠ .cell c') → p ∈ rest := fun {p} hp h1 h2 => go1 hp (dP hp h1) (dc hp h2) (dL hp h1)
  have goIts : ∀ {vs : List Value} {xs : List (Int × Int)}, Its nw vs xs → Its rest vs xs := fun h => h.mono fun t v p k u hm => goT (.tail _ hm) (by simp) (by intro c'; simp)
  have goRows : ∀ {pv : List Value} {es' : List Addr} {rs' : List (List (Int × Int))}, RowsAt nw pv es' rs' → (∀ e ∈ es', e ≠ P ∧ e ≠ LL) → RowsAt rest pv es' rs' := fun h hne => h.mono fun p hp hcs => by
    rcases hcs with ⟨he, hcl, xs, n, hd⟩ | ⟨hcl, xs, n, hd⟩
    · exact go1 (.tail _ hp) (hne _ he).1 (dc (.tail _ hp) (by intro c'; rw [hd]; simp)) (hne _ he).2
    · exact goT (.tail _ hp) (by rw [hcl]; simp) (by intro c'; rw [hd]; simp)
  refine ⟨rest, ?_, ?_, hccL, ?_⟩
  · intro p hp
    rcases List.mem_cons.mp hp with rfl | hp
    · exact N9 _ hcc9
    · exact N3 p hp
  · intro p hp
    exact ⟨r1 p (q3 p hp), q1 p hp⟩
  · exact {
      hX := goT (.tail _ hX) (by simp) (by intro c'; simp)
      hD := goT (.tail _ hD) (by simp) (by intro c'; simp)
      hI := goT (.tail _ hI) (by simp) (by intro c'; simp)
      hP := go hP hccP hPL
      hR1 := goRows hR1 fun e he => ⟨fun e' => hP1 (e' ▸ he), fun e' => hL1 (e' ▸ he)⟩
      hER := go1 (.tail _ hER) (Ne.symm hPR) (dc (.tail _ hER) (by intro c'; simp)) (Ne.symm hLR)
      hIts := goIts hIts
      hR2 := goRows hR2 fun e he => ⟨fun e' => hP2 (e' ▸ he), fun e' => hL2 (e' ▸ he)⟩
      base := fun p hp h1 h2 => go1 (.tail _ (hbase p hp h1 h2)) h1 (hnc p hp).1 (hnc p hp).2
      hIt := go1 (.head _) (apart N₁ (.head _) (.tail _ hP0) (by rw [hc]; simp)) hIc (apart N₁ (.head _) (.tail _ hLL) (by rw [hc]; simp))
      hT := goT (.tail _ hT) (by simp) (by intro c'; simp)
      hE := go1 (.tail _ hE) (Ne.symm hPE) (dc (.tail _ hE) (by intro c'; simp)) (Ne.symm hLE)
      hIt1 := goIts hIt1 }
end
end
section
section
local macro_rules | `(tactic| walk_at "call ref") => `(tactic| (k_here; refine Hold.out ?_))
local macro_rules | `(tactic| walk_at "binaryOp Add ref ref") => `(tactic| (k_here; refine Hold.out ?_))
local macro_rules | `(tactic| walk_at "FEnd") => `(tactic| (k_here; refine Hold.out ?_))

local macro_rules | `(tactic| walk_at "ElEnd") => `(tactic| (k_here; refine Hold.out ?_))
theorem cat_L {prog : Program} {w : World} {A : Around} {E : Value → Shared → Prop} {s : Shared} {h₀ : Heap} {L a b : Addr} {m : Str → Option Value} {news : Led} {vs ws : List Value} {n k : Nat} {Q : Value → Shared → Prop} (F : Fr h₀ L s.heap m) (N : News h₀ L s.heap news) (ha : (a, W.listOf vs.toArray n) ∈ news) (hb : (b, W.listOf ws.toArray k) ∈ news)
    (hz : vs.length ≤ 500) (hz2 : ws.length ≤ 500) (h : ∀ D h', Fr h₀ L h' m → News h₀ L h' ((D, W.listOf (vs ++ ws).toArray 0) :: news) → (∀ p ∈ news, p.1 < D) → Q (.ref D) { s with heap := h' }) :
    wpAny (model prog w) A (binaryOp .Add (.ref a) (.ref b)) Q E s :=
  add_lists (hsz := by rw [PySem.sizeLine_eq]; (first | lia | omega)) F N (News.isList N ha) (News.isList N hb) fun h' F' N' => h _ h' F' N' fun p hp => Heap.lt_size (N p hp).1
def StoredPost (news : Led) (P : Addr) (es : List Addr) (st : SSt) (r : Value) (n : Led) : Prop :=
  ∃ T nl names nn, ∃ (te tl : Tok), ∃ pw nP' es', r = .ref T ∧ (T, ({ cls := .type "tuple", data := .seq #[.ref nl, .int st.early te, .int st.late tl] } : Obj)) ∈ n ∧ (nl, W.listOf (List.toArray names) nn) ∈ n ∧ StrsAre names ((st.row :: st.left).map fun r => PF r.length) ∧
    RowsAt n pw es' (st.row :: st.left) ∧ (P, W.listOf pw.toArray nP') ∈ n ∧ (P :: es').Nodup ∧ (∀ e ∈ es', e ∈ es ∨ ∀ q ∈ news, q.1 ≠ e) ∧ (∀ q ∈ news, q.1 ≠ P → q.1 ∉ es → q ∈ n)
inductive JA (w : World) (news : Led) (es : List Addr) (X d P ti : Addr) (ln : Int) (t : Tok) (ins : Value) (a0 a1 a2 a3 a4 : Tok) (v p : Int) (k u : Tok) (L1 LL ER0 : Addr) (rs : List (List (Int × Int))) (st : SSt) (i : Nat) (m : Str → Option Value) (nw : Led) : Prop
  | mk (pv nP es1 ER rvs nr lvs nll es2) (tn te tl : Tok) (oc c) : (SF w news es X d P ti ln t ins a0 a1 a2 a3 a4 (v, p) k u (L1 + 1) LL ER pv nP es1 (rs.drop i) rvs nr st.row lvs nll es2 st.left oc nw) → (oc.data = .cell c) → ((P :: LL :: ER :: (es1 ++ es2)).Nodup) → ((∀ e ∈ ER :: (es1 ++ es2), e ∈ es ∨ e = ER0)) → (AllB [(Str.ofString "line", .ref X), (Str.ofString "item", .ref ti), (Str.ofString "name", .str (PF st.row.length) tn), (Str.ofString "row", .ref ER), (Str.ofString "left", .ref LL), (Str.ofString "early", .int st.early te), (Str.ofString "late", .int st.late tl)] m) → JA w news es X d P ti ln t ins a0 a1 a2 a3 a4 v p k u L1 LL ER0 rs st i m nw
set_option maxRecDepth 100000 in
set_option maxHeartbeats 8000000 in
theorem c_stored {w : World} {loose mean mg mb} {news : Led} {X d P : Addr} {ln : Int} {t : Tok} {ins : Value} {a0 a1 a2 a3 a4 : Tok} {pb : List Value} {nP : Nat} {es : List Addr} {rs : List (List (Int × Int))} {ti : Addr} {v p : Int} {k u : Tok} {tw : Tok}
    (hX : (X, instObj 52 d) ∈ news) (hD : (d, lexD w ln t ins P a0 a1 a2 a3 a4) ∈ news) (hP : (P, W.listOf pb.toArray nP) ∈ news) (hR : RowsAt news pb es rs) (hI : (ti, pairO v p k u) ∈ news) (hlen : rs.length ≤ 20) (hnd : (P :: es).Nodup)
    (hsz : ∀ r ∈ rs, 1 ≤ r.length ∧ Sorted r) (htot : (rs.map (·.length)).sum ≤ 30) :
    Ctr w loose mean mg mb 5 100 113 [.ref X, .int rs.length tw, .ref ti] [] news (fun r n => StoredPost news P es (sAll (v, p) rs) r n) := by
  unfold Ctr
  k_fill
  intro dp un gd env outer A₀ base h₀ L m s R B F X0 N T hf hke hd hu hret
  k_dflt cell_step
  (try ((with_reducible show wpAny _ _ (execs _ _) _ _ _); (try dsimp only); k_fold))
  k_steps
  refine Hold.intro ?_
  (k_dflt (refine' call_val (f := 82) (C := c_flags (by first | decide | (first | lia | omega) | assumption) (by first | decide | (first | lia | omega) | assumption)) (ret := ?_)); intro uk9 uh9 utk9 uF9 uN9; (try dsimp only); (try k_sweep))
  k_steps
  refine Hold.intro ?_
  k_fold
  (rename IsRange _ _ _ _ _ _ _ _ => R1)
  (rename Fr _ _ _ _ => F1)
  (rename News _ _ _ _ => N1)
  first | (refine e0a6 (nameL F1) ?_; intro L1 g1 hp1 e1 e2 e3) | (refine e1a5 (nameL F1) ?_; intro L1 g1 hp1 e1 e2 e3) | (refine e2a4 (nameL F1) ?_; intro L1 g1 hp1 e1 e2 e3) | (refine e3a3 (nameL F1) ?_; intro L1 g1 hp1 e1 e2 e3) | (refine e4a2 (nameL F1) ?_; intro L1 g1 hp1 e1 e2 e3) | (refine e5a1 (nameL F1) ?_; intro L1 g1 hp1 e1 e2 e3) | obtain ⟨L1, g1, hp1, e1, e2, e3⟩ := nameL F1
  subst e1 e2 e3
  first | (refine e0a8 (name4 N1) ?_; intro D0 LL ER0 oc0 e1 e2 e3 e4) | (refine e1a7 (name4 N1) ?_; intro D0 LL ER0 oc0 e1 e2 e3 e4) | (refine e2a6 (name4 N1) ?_; intro D0 LL ER0 oc0 e1 e2 e3 e4) | (refine e3a5 (name4 N1) ?_; intro D0 LL ER0 oc0 e1 e2 e3 e4) | (refine e4a4 (name4 N1) ?_; intro D0 LL ER0 oc0 e1 e2 e3 e4) | (refine e5a3 (name4 N1) ?_; intro D0 LL ER0 oc0 e1 e2 e3 e4) | obtain ⟨D0, LL, ER0, oc0, e1, e2, e3, e4⟩ := name4 N1
  subst e1 e2 e3 e4
  (rename @LT.lt Nat _ ER0 LL ∧ _ => lLL)
  (rename @LT.lt Nat _ (L1 + 1) ER0 ∧ _ => lER)
  (rename ∀ p ∈ news, _ < _ => lnews)
  (rename Obj.data oc0 = _ => hoc0)
  have hnc : ∀ q ∈ news, q.1 ≠ L1 + 1 ∧ q.1 ≠ LL := fun q hq => ⟨Nat.ne_of_lt (Nat.lt_succ_of_lt (lnews q hq)), Nat.ne_of_lt (ltOf lLL.2.2 q hq)⟩
  have hnc2 : ∀ q ∈ news, q.1 ≠ ER0 := fun q hq => Nat.ne_of_lt (ltOf lER.2 q hq)
  refine for_range2 (n := rs.length) (fun i m nw => JA w news es X d P ti ln t ins a0 a1 a2 a3 a4 v p k u L1 LL ER0 rs (sAll (v, p) (rs.take i)) i m nw) rfl F1 N1 R1 ?_ ?_ ?_ ?_ ?_ ?_ rfl rfl (by passes_own)
  · exact small_one (by (first | lia | omega)) (by (first | lia | omega)) (by (first | lia | omega)) (by (first | lia | omega))
  · have := rangeSize_nat 0 (rs.length : Int); rw [this]; (first | lia | omega)
  · refine ⟨pb, nP, es, ER0, [.ref ti], 0, [], 0, [], _, _, _, oc0, _, ⟨?_, ?_, ?_, ?_, ?_, ?_, ?_, ?_, ?_, ?_, ?_⟩, hoc0, ?_, ?_, rfl, rfl, rfl, rfl, rfl, rfl, rfl, trivial⟩
    · k_mem
    · k_mem
    · k_mem
    · k_mem
    · exact hR.mono fun p hp _ => .tail _ (.tail _ (.tail _ (.tail _ hp)))
    · exact .tail _ (.tail _ (.head _))
    · exact .cons (by k_mem) .nil
    · exact .tail _ (.head _)
    · exact .nil
    · exact .tail _ (.tail _ (.tail _ (.head _)))
    · exact fun p hp _ _ => .tail _ (.tail _ (.tail _ (.tail _ hp)))
    · have ha := hR.addr
      rw [List.append_nil]
      rw [List.nodup_cons] at hnd
      have hL9 : LL ≠ ER0 := Ne.symm (Nat.ne_of_lt lLL.1)
      refine List.nodup_cons.mpr ⟨?_, List.nodup_cons.mpr ⟨?_, List.nodup_cons.mpr ⟨?_, hnd.2⟩⟩⟩
      · intro h
        rcases List.mem_cons.mp h with h | h
        · exact (hnc _ hP).2 h
        rcases List.mem_cons.mp h with h | h
        · exact hnc2 _ hP h
        · exact hnd.1 h
      · intro h
        rcases List.mem_cons.mp h with h | h
        · exact hL9 h
        · obtain ⟨q, hq, e⟩ := ha _ h
          exact (hnc q hq).2 e
      · intro h
        first | (refine e0a3 (ha _ h) ?_; intro q hq e) | (refine e1a2 (ha _ h) ?_; intro q hq e) | (refine e2a1 (ha _ h) ?_; intro q hq e) | obtain ⟨q, hq, e⟩ := ha _ h
        exact hnc2 q hq e
    · intro e he
      simp at he
      rcases he with rfl | he
      · exact .inr rfl
      · exact .inl he
  · intro i m nw nw' zq1 hk
    (try dsimp only)
    (try k_fold)
    refine Small.go ?_
    intro gSm hSm
    obtain ⟨pv, nP, es1, ER, rvs, nr, lvs, nll, es2, tn, te, tl, oc, c, HS, hoc, hnd', hes, hB⟩ := zq1
    refine hSm ?_
    clear hSm gSm
    refine ⟨pv, nP, es1, ER, rvs, nr, lvs, nll, es2, tn, te, tl, oc, c, HS.frame fun p hp hc => hk p hp ?_, hoc, hnd', hes, hB⟩
    rcases hc with ⟨h, _⟩ | ⟨h, _⟩ | h | h | h | ⟨q, hq, h⟩
    · exact .inl (by rw [h]; simp)
    · exact .inl (by rw [h]; simp)
    · exact .inr ⟨(X, instObj 52 d), by k_mem, h.symm⟩
    · exact .inr ⟨_, (by k_mem : (d, lexD w ln t ins P a0 a1 a2 a3 a4) ∈ _), h.symm⟩
    · exact .inr ⟨(L1 + 1, oc0), .tail _ (.tail _ (.tail _ (.head _))), h.symm⟩
    · exact .inr ⟨q, .tail _ (.tail _ (.tail _ (.tail _ hq))), h⟩
  · clear N1 F1
    intro i t0 m₁ news₁ h tk I oI s' zq2 hi hc zq3 F₁ N₁ hoffI
    (try dsimp only)
    (try k_fold)
    refine Small.go ?_
    intro gSm hSm
    obtain ⟨g, rfl⟩ := zq2
    obtain ⟨pv, nP, es1, ER, rvs, nr, lvs, nll, es2, tn, te, tl, oc, c, HS, hoc, hnd', hes, hB⟩ := zq3
    obtain ⟨hX', hD', hI', hP', hR1', hER', hIts', hLL', hR2', hcc', hbase'⟩ := HS
    refine hSm ?_
    clear hSm gSm
    have hIc : I ≠ L1 + 1 := Ne.symm (hoffI _ (.tail _ (.tail _ (.tail _ (.head _)))))
    clear hoffI
    rw [List.drop_eq_getElem_cons hi] at hR1'
    generalize hr : rs[i] = r at hR1'
    cases hR1' with
    | @cons t1 E1 vs1 n1 _ u1 pv1 es1 _ hT1 hE1 hIt1 hR1' =>
    have F2 := Fr.bindX F₁ hB
    have hpl : pv1.length ≤ 100 := by have := hR1'.length.1; simp at this; (first | lia | omega)
    have HN := Hold.intro N₁
    clear F₁
    (try ((with_reducible show wpAny _ _ (execs _ _) _ _ _); (try dsimp only); k_fold))
    k_steps
    refine Hold.intro ?_
    (k_dflt (refine' call_ret (f := 42) (C := c_pop (by k_mem) (by k_mem) (by k_mem) (by (first | lia | omega))) (ret := ?_)); (intro un9 uh9 utk9 uP9 uF9 uN9; obtain ⟨uhP9, uhk9⟩ := uP9; refine Hold.out ?_); (try dsimp only); (try k_sweep))
    k_steps
    refine Hold.intro ?_
    (rename News _ _ _ _ => N9)
    (rename ∀ p ∈ (I, oI) :: news₁, _ → p ∈ _ => hk9)
    (rename (P, W.listOf pv1.toArray _) ∈ _ => hP9)
    first | (refine e0a5 (turn_led (Hold.out HN) hc hIc hX' hD' hI' hP' hR1' hER' hIts' hLL' hR2' hcc' hbase' hT1 hE1 hIt1 hoc hnd' hnc N9 hP9 hk9) ?_; intro rest N2 hoffr hLc HG) | (refine e1a4 (turn_led (Hold.out HN) hc hIc hX' hD' hI' hP' hR1' hER' hIts' hLL' hR2' hcc' hbase' hT1 hE1 hIt1 hoc hnd' hnc N9 hP9 hk9) ?_; intro rest N2 hoffr hLc HG) | (refine e2a3 (turn_led (Hold.out HN) hc hIc hX' hD' hI' hP' hR1' hER' hIts' hLL' hR2' hcc' hbase' hT1 hE1 hIt1 hoc hnd' hnc N9 hP9 hk9) ?_; intro rest N2 hoffr hLc HG) | (refine e3a2 (turn_led (Hold.out HN) hc hIc hX' hD' hI' hP' hR1' hER' hIts' hLL' hR2' hcc' hbase' hT1 hE1 hIt1 hoc hnd' hnc N9 hP9 hk9) ?_; intro rest N2 hoffr hLc HG) | (refine e4a1 (turn_led (Hold.out HN) hc hIc hX' hD' hI' hP' hR1' hER' hIts' hLL' hR2' hcc' hbase' hT1 hE1 hIt1 hoc hnd' hnc N9 hP9 hk9) ?_; intro rest N2 hoffr hLc HG) | obtain ⟨rest, N2, hoffr, hLc, HG⟩ := turn_led (Hold.out HN) hc hIc hX' hD' hI' hP' hR1' hER' hIts' hLL' hR2' hcc' hbase' hT1 hE1 hIt1 hoc hnd' hnc N9 hP9 hk9
    clear HN N9 hk9 hP9 hX' hD' hI' hP' hR1' hER' hIts' hLL' hR2' hcc' hbase' hT1 hE1 hIt1
    refine Small.go ?_
    intro gSm hSm
    obtain ⟨gX, gD, gI, gP, gR1, gER, gIts, gR2, gbase, gIt, gT, gE, gIt1⟩ := HG
    refine hSm ?_
    clear hSm gSm
    have hrs : r ∈ rs := by rw [← hr]; exact List.getElem_mem hi
    have hs1 : Sorted r := (hsz r hrs).2
    first | (refine e0a3 (sAll_bounds (v, p) rs i) ?_; intro hb1 hb2 hb3) | (refine e1a2 (sAll_bounds (v, p) rs i) ?_; intro hb1 hb2 hb3) | (refine e2a1 (sAll_bounds (v, p) rs i) ?_; intro hb1 hb2 hb3) | obtain ⟨hb1, hb2, hb3⟩ := sAll_bounds (v, p) rs i
    have hb4 := take_sum_succ' hi
    rw [hr] at hb4
    have hl1 : r.length ≤ 100 := by (first | lia | omega)
    have hs1' := hs1
    unfold Sorted at hs1'
    have hall1 : ∀ q ∈ (LL, W.listOf lvs.toArray nll) :: rest, q.1 ≠ L1 + 1 := fun q hq => by
      rcases List.mem_cons.mp hq with rfl | hq
      · exact hLc
      · exact (hoffr q hq).1
    have hall2 : ∀ q ∈ rest, q.1 ≠ LL := fun q hq => (hoffr q hq).2
    have hLc' : @Ne Nat (L1 + 1) LL := Ne.symm hLc
    have hlv : lvs.length ≤ 100 := by have := gR2.length.1; (first | lia | omega)
    have hstep := sAll_take (x := (v, p)) hi
    rw [hr] at hstep
    generalize hst : sAll (v, p) (rs.take i) = st at *
    have hperm : (P :: LL :: ER :: (es1 ++ (es2 ++ [E1]))).Nodup := by
      have e : (P :: LL :: ER :: (es1 ++ (es2 ++ [E1]))).Perm (P :: LL :: ER :: ((E1 :: es1) ++ es2)) := by
        refine .cons _ (.cons _ (.cons _ ?_))
        rw [← List.append_assoc]
        exact List.perm_append_singleton _ _
      exact e.nodup_iff.mpr hnd'
    have hsub : (P :: LL :: E1 :: (es1 ++ es2)).Nodup := by
      refine List.Nodup.sublist ?_ hnd'
      exact .cons_cons _ (.cons_cons _ (.cons _ (List.Sublist.refl _)))
    (try ((with_reducible show wpAny _ _ (execs _ _) _ _ _); (try dsimp only); k_fold))
    k_steps
    refine Hold.intro ?_
    (k_dflt (refine' call_val (f := 108) (C := c_above (by k_mem) (by first | assumption | exact Its.mono (by assumption) (fun _ _ _ _ _ h => by k_mem)) (by k_mem) (by first | assumption | (first | lia | omega)) (by assumption)) (ret := ?_)); intro uk9 uh9 utk9 uF9 uN9; (try dsimp only); (try k_sweep))
    k_steps
    rotate_left
    · -- it goes to the left
      (rename (PF r.length == PF st.row.length) = false => hne)
      have hne' : r.length ≠ st.row.length := fun e => by rw [e] at hne; simp at hne
      refine Hold.intro ?_
      (try (k_unfold; (try dsimp only)))
      unfold FEnd
      dsimp only
      refine ⟨_, _, _, _, rfl, by k_asm, news_dup (by k_asm) (.tail _ (.tail _ (.tail _ gIt))), trivial, ?_⟩
      rw [hstep]
      unfold sStep
      rw [if_neg hne']
      dsimp only
      refine ⟨pv1, _, es1, ER, rvs, nr, _, _, es2 ++ [E1], _, _, _, _, _, ⟨.tail _ (.tail _ (.tail _ gX)), .tail _ (.tail _ (.tail _ gD)), .tail _ (.tail _ (.tail _ gI)), .tail _ (.tail _ (.tail _ gP)), gR1.mono fun q hq _ => .tail _ (.tail _ (.tail _ hq)), .tail _ (.tail _ (.tail _ gER)), gIts.mono fun _ _ _ _ _ hq => .tail _ (.tail _ (.tail _ hq)), .tail _ (.tail _ (.head _)),
        (gR2.mono fun q hq _ => .tail _ (.tail _ (.tail _ hq))).append (.cons (.head _) (.tail _ (.tail _ (.tail _ gE))) (gIt1.mono fun _ _ _ _ _ hq => .tail _ (.tail _ (.tail _ hq))) .nil), .tail _ (.head _), fun q hq h1 h2 => .tail _ (.tail _ (.tail _ (gbase q hq h1 h2)))⟩, by assumption, hperm, ?_, rfl, rfl, rfl, rfl, rfl, rfl, rfl, trivial⟩
      · intro e he
        refine hes e ?_
        simp at he ⊢
        rcases he with he | he | he | he
        · exact .inl he
        · exact .inr (.inr (.inl he))
        · exact .inr (.inr (.inr he))
        · exact .inr (.inl he)
    · have hrow : r.length = st.row.length := PF_inj _ (by (first | lia | omega)) _ (by (first | lia | omega)) (hsz r hrs).1 hb1 (by assumption)
      refine Hold.intro ?_
      (rename News _ _ _ _ => N3)
      (rename Fr _ _ _ _ => F3)
      obtain ⟨oc2, e⟩ := name1 N3
      subst e
      (rename Obj.data oc2 = _ => hoc2)
      refine comp_list (J := fun j ys nw => Sub ((L1 + 1, oc2) :: (LL, W.listOf lvs.toArray nll) :: rest) nw ∧ IntsAre ys ((st.row.take j).map (above r))) (by rfl) F3 N3 (.tail _ (.tail _ gER)) (by decide) (by rfl) (by rfl) ?_ ⟨Sub.refl _, .nil⟩ ?_ ?_ ?_
      · have := gIts.length; (first | lia | omega)
      · intro j ys nw nw' zq4 hk
        (try dsimp only)
        (try k_fold)
        obtain ⟨hs, hy⟩ := zq4
        exact ⟨hs.kept hk, hy⟩
      · clear N3 F3
        intro j v' I2 oI2 C oC D m₂ ys nw h tk E' s' zq5 hv' hyl hcl hns hm _ zq6 F₂ N₂ off hne hoff
        (try dsimp only)
        (try k_fold)
        first | (refine e0a3 (zq5) ?_; intro g' tk' er2; (try clear zq5); subst er2) | (refine e1a2 (zq5) ?_; intro g' tk' er2; (try clear zq5); subst er2) | (refine e2a1 (zq5) ?_; intro g' tk' er2; (try clear zq5); subst er2) | obtain ⟨g', tk', rfl⟩ := zq5
        obtain ⟨hs, hy⟩ := zq6
        have hj : j < st.row.length := by
          have := (List.getElem?_eq_some_iff.mp hv').1
          rw [← gIts.length]; exact this
        first | (refine e0a5 (gIts.get j st.row[j] (List.getElem?_eq_getElem hj)) ?_; intro tm km um hvm hmm) | (refine e1a4 (gIts.get j st.row[j] (List.getElem?_eq_getElem hj)) ?_; intro tm km um hvm hmm) | (refine e2a3 (gIts.get j st.row[j] (List.getElem?_eq_getElem hj)) ?_; intro tm km um hvm hmm) | (refine e3a2 (gIts.get j st.row[j] (List.getElem?_eq_getElem hj)) ?_; intro tm km um hvm hmm) | (refine e4a1 (gIts.get j st.row[j] (List.getElem?_eq_getElem hj)) ?_; intro tm km um hvm hmm) | obtain ⟨tm, km, um, hvm, hmm⟩ := gIts.get j st.row[j] (List.getElem?_eq_getElem hj)
        rw [hv'] at hvm
        obtain rfl := Option.some.inj hvm
        replace hmm := hs _ (.tail _ (.tail _ hmm))
        have gE' := hs _ (.tail _ (.tail _ gE))
        have gIt1' : Its nw vs1 r := gIt1.mono fun _ _ _ _ _ hq => hs _ (.tail _ (.tail _ hq))
        have hoc3 := hs _ (.head _)
        have hER0 := gER
        clear gIt1 gIts gE gER
        (try ((with_reducible show wpAny _ _ (execs _ _) _ _ _); (try dsimp only); k_fold))
        k_steps
        refine Hold.intro ?_
        (k_dflt (refine' call_val (f := 108) (C := c_above (by k_mem) (by first | assumption | exact Its.mono (by assumption) (fun _ _ _ _ _ h => by k_mem)) (by k_mem) (by first | assumption | (first | lia | omega)) (by assumption)) (ret := ?_)); intro uk9 uh9 utk9 uF9 uN9; (try dsimp only); (try k_sweep))
        k_steps
        refine Hold.intro ?_
        (try (k_unfold; (try dsimp only)))
        unfold ElEnd
        refine ⟨_, _, _, rfl, by k_asm, by k_asm, .head _, .tail _ (.head _), .tail _ (.tail _ (.head _)), .tail _ (.tail _ (.tail _ (hs _ (.tail _ (.tail _ hER0))))), fun q hq => .tail _ (.tail _ (.tail _ (hs q hq))), ?_⟩
        exact ints_take hy hj rfl
      · clear N3 F3
        intro C D oC m₂ ys nw h tk s' zq7 hyl zq8 _ hns F₂ N₂ off hCD hoff
        (try dsimp only)
        (try k_fold)
        refine Small.go ?_
        intro gSm hSm
        obtain ⟨g', rfl⟩ := zq7
        obtain ⟨hs, hy⟩ := zq8
        refine hSm ?_
        clear hSm gSm
        refine post_E F₂ N₂ hns off hCD fun h' F₃ N₃ => ?_
        rw [List.take_of_length_le (by have := gIts.length; (first | lia | omega))] at hy
        clear F₂ N₂
        have gE' := hs _ (.tail _ (.tail _ gE))
        have gER' := hs _ (.tail _ (.tail _ gER))
        have hoc3 := hs _ (.head _)
        (try ((with_reducible show wpAny _ _ (execs _ _) _ _ _); (try dsimp only); k_fold))
        k_steps
        refine Hold.intro ?_
        (rename News _ _ _ _ => N3)
        (rename Fr _ _ _ _ => F3)
        have hNE : ∀ q ∈ (L1 + 1, oc2) :: (LL, W.listOf lvs.toArray nll) :: rest, q.2.cls ≠ .type "list" → q.1 ≠ E1 := fun q hq hne => apart N3 (.tail _ (hs q hq)) (.tail _ gE') hne
        have hLLE : LL ≠ E1 := by
          simp only [List.nodup_cons, List.mem_cons, List.mem_append, List.cons_append, not_or] at hnd'
          exact hnd'.2.1.2.1
        have hEE : ER ≠ E1 := by
          simp only [List.nodup_cons, List.mem_cons, List.mem_append, List.cons_append, not_or] at hnd'
          exact hnd'.2.2.1.1
        have hPE : P ≠ E1 := by
          simp only [List.nodup_cons, List.mem_cons, List.mem_append, List.cons_append, not_or] at hnd'
          exact hnd'.1.2.2.1
        have hcE : L1 + 1 ≠ E1 := apart2 (o := oc2) N3 (.tail _ hoc3) (.tail _ gE') (fun e => by rw [e] at hoc2; cases hoc2)
        refine for_list2 (fun j m nw' => ∃ vs2 n2, ∃ (tl' te' : Tok), (E1, W.listOf vs2.toArray n2) ∈ nw' ∧ Its nw' vs2 (insAll r (st.row.take j)) ∧ (∀ q ∈ (L1 + 1, oc2) :: (LL, W.listOf lvs.toArray nll) :: rest, q.1 ≠ E1 → q ∈ nw') ∧
          AllB [(Str.ofString "line", .ref X), (Str.ofString "item", .ref ti), (Str.ofString "row", .ref ER), (Str.ofString "left", .ref LL), (Str.ofString "early", .int (st.early + above r (v, p)) te'), (Str.ofString "late", .int (st.late + (st.row.map (above r)).sum) tl')] m) rfl F3 N3 (.tail _ gER') ?_ ?_ ?_ ?_ rfl rfl (by passes_own)
        · exact ⟨vs1, n1, _, _, .tail _ gE', gIt1.mono fun _ _ _ _ _ hq => .tail _ (hs _ (.tail _ (.tail _ hq))), fun q hq _ => .tail _ (hs q hq), rfl, rfl, rfl, rfl, rfl, rfl, trivial⟩
        · intro j m nw1 nw2 zq9 hk
          (try dsimp only)
          (try k_fold)
          first | (refine e0a8 (zq9) ?_; intro vs2 n2 tl' te' h1 h2 h3 h4; (try clear zq9)) | (refine e1a7 (zq9) ?_; intro vs2 n2 tl' te' h1 h2 h3 h4; (try clear zq9)) | (refine e2a6 (zq9) ?_; intro vs2 n2 tl' te' h1 h2 h3 h4; (try clear zq9)) | (refine e3a5 (zq9) ?_; intro vs2 n2 tl' te' h1 h2 h3 h4; (try clear zq9)) | (refine e4a4 (zq9) ?_; intro vs2 n2 tl' te' h1 h2 h3 h4; (try clear zq9)) | (refine e5a3 (zq9) ?_; intro vs2 n2 tl' te' h1 h2 h3 h4; (try clear zq9)) | obtain ⟨vs2, n2, tl', te', h1, h2, h3, h4⟩ := zq9
          exact ⟨vs2, n2, tl', te', hk _ h1 (.inl (by simp)), h2.mono fun _ _ _ _ _ hq => hk _ hq (.inl (by simp)), fun q hq hne => hk _ (h3 q hq hne) (.inr ⟨q, .tail _ (hs q hq), rfl⟩), h4⟩
        · clear N3 F3
          intro j v' m₃ news₃ h3 tk3 I3 oI3 s3 zq10 hv' hcI3 _ zq11 F₃ N₃ _
          (try dsimp only)
          (try k_fold)
          obtain ⟨g3, rfl⟩ := zq10
          first | (refine e0a8 (zq11) ?_; intro vs2 n2 tl' te' hE2 hIt2 hb2 hB2; (try clear zq11)) | (refine e1a7 (zq11) ?_; intro vs2 n2 tl' te' hE2 hIt2 hb2 hB2; (try clear zq11)) | (refine e2a6 (zq11) ?_; intro vs2 n2 tl' te' hE2 hIt2 hb2 hB2; (try clear zq11)) | (refine e3a5 (zq11) ?_; intro vs2 n2 tl' te' hE2 hIt2 hb2 hB2; (try clear zq11)) | (refine e4a4 (zq11) ?_; intro vs2 n2 tl' te' hE2 hIt2 hb2 hB2; (try clear zq11)) | (refine e5a3 (zq11) ?_; intro vs2 n2 tl' te' hE2 hIt2 hb2 hB2; (try clear zq11)) | obtain ⟨vs2, n2, tl', te', hE2, hIt2, hb2, hB2⟩ := zq11
          have hj : j < st.row.length := by
            have := (List.getElem?_eq_some_iff.mp hv').1
            rw [← gIts.length]; exact this
          first | (refine e0a5 (gIts.get j st.row[j] (List.getElem?_eq_getElem hj)) ?_; intro tm km um hvm hmm) | (refine e1a4 (gIts.get j st.row[j] (List.getElem?_eq_getElem hj)) ?_; intro tm km um hvm hmm) | (refine e2a3 (gIts.get j st.row[j] (List.getElem?_eq_getElem hj)) ?_; intro tm km um hvm hmm) | (refine e3a2 (gIts.get j st.row[j] (List.getElem?_eq_getElem hj)) ?_; intro tm km um hvm hmm) | (refine e4a1 (gIts.get j st.row[j] (List.getElem?_eq_getElem hj)) ?_; intro tm km um hvm hmm) | obtain ⟨tm, km, um, hvm, hmm⟩ := gIts.get j st.row[j] (List.getElem?_eq_getElem hj)
          rw [hv'] at hvm
          obtain rfl := Option.some.inj hvm
          have hmE := hNE _ (.tail _ (.tail _ hmm)) (by simp)
          replace hmm := hb2 _ (.tail _ (.tail _ hmm)) hmE
          have hoc3 := hb2 _ (.head _) hcE
          have hE0 := hb2 _ (.tail _ (.tail _ gER)) hEE
          have hIE : I3 ≠ E1 := apart N₃ (.head _) (.tail _ hE2) (by rw [hcI3]; simp)
          have hz2 : (insAll r (st.row.take j)).length ≤ 100 := by
            rw [insAll_length]
            have := List.length_take_le j st.row
            have := List.length_take_le i rs
            (first | lia | omega)
          have hsr := insAll_sorted (st.row.take j) hs1
          unfold Sorted at hsr
          have F2 := Fr.bindX F₃ hB2
          have HN3 := Hold.intro N₃
          clear gIt1 gIts gE gER gE' gER' F₃
          (try ((with_reducible show wpAny _ _ (execs _ _) _ _ _); (try dsimp only); k_fold))
          k_steps
          refine Hold.intro ?_
          (k_dflt (refine' call_ret (f := 65) (C := c_insort (by k_mem) (by first | assumption | exact Its.mono (by assumption) (fun _ _ _ _ _ h => by k_mem)) (by k_mem) (by first | assumption | (first | lia | omega)) (by assumption)) (ret := ?_)); (intro un9 uh9 utk9 uP9 uF9 uN9; obtain ⟨uhE9, uhk9⟩ := uP9); (try dsimp only); (try k_sweep))
          k_steps
          refine Hold.intro ?_
          (try (k_unfold; (try dsimp only)))
          unfold FEnd
          dsimp only
          (rename ∀ p ∈ (I3, oI3) :: news₃, _ → p ∈ _ => hk9)
          (rename (E1, _) ∈ _ => hE9)
          refine ⟨_, _, _, _, rfl, by k_asm, news_dup (by k_asm) (hk9 _ (.head _) hIE), hk9 _ (.tail _ hE0) hEE, _, _, tl', te', hE9, ?_, fun q hq hne => hk9 _ (.tail _ (hb2 q hq hne)) hne, rfl, rfl, rfl, rfl, rfl, rfl, trivial⟩
          rw [List.take_add_one, List.getElem?_eq_getElem hj]
          show Its _ _ (insAll r (st.row.take j ++ [st.row[j]]))
          rw [insAll_snoc]
          refine ins_its (hIt2.mono fun a b c e f hq => hk9 _ (.tail _ hq) (apart (Hold.out HN3) (.tail _ hq) (.tail _ hE2) (by simp))) _ (hk9 _ (.tail _ hmm) hmE)
        · clear N3 F3
          intro m₃ news₃ h3 tk3 zq12 F₃ N₃
          (try dsimp only)
          (try k_fold)
          first | (refine e0a8 (zq12) ?_; intro vs2 n2 tl' te' hE2 hIt2 hb2 hB2; (try clear zq12)) | (refine e1a7 (zq12) ?_; intro vs2 n2 tl' te' hE2 hIt2 hb2 hB2; (try clear zq12)) | (refine e2a6 (zq12) ?_; intro vs2 n2 tl' te' hE2 hIt2 hb2 hB2; (try clear zq12)) | (refine e3a5 (zq12) ?_; intro vs2 n2 tl' te' hE2 hIt2 hb2 hB2; (try clear zq12)) | (refine e4a4 (zq12) ?_; intro vs2 n2 tl' te' hE2 hIt2 hb2 hB2; (try clear zq12)) | (refine e5a3 (zq12) ?_; intro vs2 n2 tl' te' hE2 hIt2 hb2 hB2; (try clear zq12)) | obtain ⟨vs2, n2, tl', te', hE2, hIt2, hb2, hB2⟩ := zq12
          rw [List.take_of_length_le (by have := gIts.length; (first | lia | omega))] at hIt2
          have F2 := Fr.bindA F₃ hB2
          have hoc3 := hb2 _ (.head _) hcE
          have hvl2 : vs2.length = r.length + st.row.length := by rw [hIt2.length, insAll_length]
          have hv1 : 1 ≤ vs2.length := by (first | lia | omega)
          have hv2 : vs2.length ≤ 31 := by (first | lia | omega)
          clear F₃ gIt1 gE gER gE' gER'
          (try ((with_reducible show wpAny _ _ (execs _ _) _ _ _); (try dsimp only); k_fold))
          k_steps
          refine Hold.intro ?_
          (k_dflt (refine' call_val (f := 82) (C := c_flags (by first | decide | (first | lia | omega) | assumption) (by first | decide | (first | lia | omega) | assumption)) (ret := ?_)); intro uk9 uh9 utk9 uF9 uN9; (try dsimp only); (try k_sweep))
          k_steps
          refine Hold.intro ?_
          (try (k_unfold; (try dsimp only)))
          unfold FEnd
          dsimp only
          have bq : ∀ {q : Addr × Obj}, q ∈ rest → q.1 ≠ E1 → q ∈ _ := fun {q} hq hne => hb2 q (.tail _ (.tail _ hq)) hne
          have bT : ∀ {q : Addr × Obj}, q ∈ rest → q.2.cls ≠ .type "list" → q ∈ _ := fun {q} hq hne => bq hq (hNE q (.tail _ (.tail _ hq)) hne)
          have hn1 := hsub
          simp only [List.nodup_cons, List.mem_cons, List.mem_append, not_or] at hn1
          refine ⟨_, _, _, _, rfl, by k_asm, news_dup (by k_asm) (.tail _ (bT gIt (by rw [hc]; simp))), trivial, ?_⟩
          rw [hstep]
          unfold sStep
          rw [if_pos hrow]
          (try dsimp only)
          refine ⟨pv1, _, es1, E1, vs2, n2, lvs, _, es2, _, _, _, oc2, _, ⟨.tail _ (bT gX (by simp)), .tail _ (bT gD (by simp)), .tail _ (bT gI (by simp)), .tail _ (bq gP hPE), ?_, .tail _ hE2, hIt2.mono fun _ _ _ _ _ hq => .tail _ hq, .tail _ (hb2 _ (.tail _ (.head _)) hLLE), ?_, .tail _ hoc3, ?_⟩, hoc2, hsub, ?_, rfl, rfl, congrArg (fun n => some (Value.str (PF n) _)) hIt2.length, rfl, rfl, rfl, rfl, trivial⟩
          · exact gR1.mono fun q hq hcs => .tail _ (hcs.elim (fun h => bq hq (fun e => hn1.2.2.1.1 (e ▸ h.1))) (fun h => bT hq (by rw [h.1]; simp)))
          · exact gR2.mono fun q hq hcs => .tail _ (hcs.elim (fun h => bq hq (fun e => hn1.2.2.1.2 (e ▸ h.1))) (fun h => bT hq (by rw [h.1]; simp)))
          · intro q hq h1 h2
            refine .tail _ (bq (gbase q hq h1 h2) fun e => ?_)
            rcases hes E1 (by simp) with h | h
            · exact h2 (e ▸ h)
            · exact hnc2 q hq (e.trans h)
          · intro e he
            refine hes e ?_
            simp at he ⊢
            exact .inr he
  · clear N1 F1
    intro m₁ news₁ h tk zq13 F₁ N₁
    (try dsimp only)
    (try k_fold)
    refine Small.go ?_
    intro gSm hSm
    obtain ⟨pv, nP2, es1, ER, rvs, nr, lvs, nll, es2, tn, te, tl, oc, c, HS, hoc, hnd', hes, hB⟩ := zq13
    obtain ⟨hX', hD', hI', hP', hR1', hER', hIts', hLL', hR2', hcc', hbase'⟩ := HS
    refine hSm ?_
    clear hSm gSm
    rw [List.drop_length] at hR1'
    cases hR1'
    rw [List.take_length] at *
    generalize hst : sAll (v, p) rs = st at *
    have hlv : lvs.length ≤ 100 := by
      have := hR2'.length.1
      have := (sAll_bounds (v, p) rs rs.length).2.2
      rw [List.take_length, hst] at this
      (first | lia | omega)
    have F2 := Fr.bindA F₁ hB
    clear F₁
    (try ((with_reducible show wpAny _ _ (execs _ _) _ _ _); (try dsimp only); k_fold))
    k_steps
    refine Hold.intro ?_
    (k_dflt (refine' cat_L ?Fq7 ?Nq7 ?aq7 ?bq7 ?yq7 ?zq7 ?_; (case Fq7 => k_asm); (case Nq7 => k_asm); (case aq7 => k_mem); (case bq7 => k_mem); (case yq7 => first | decide | (simp only [List.length_cons, List.length_nil] at *; (first | lia | omega))); (case zq7 => first | decide | (first | lia | omega))); intro uD' uh' uF' uN' ul1; (try dsimp only [List.cons_append, List.nil_append] at uN'); (try k_lt ul1); (try k_sweep))
    k_steps
    refine Hold.intro ?_
    (rename News _ _ _ _ => N3)
    (rename Fr _ _ _ _ => F3)
    obtain ⟨D1, e⟩ := name1a N3
    subst e
    obtain ⟨T0, e⟩ := name3 N3
    subst e
    obtain ⟨bs, hbs⟩ := nameN N3
    rw [← hbs] at N3
    have up : ∀ {q : Addr × Obj}, q ∈ news₁ → q ∈ bs := fun hq => by rw [hbs]; exact .tail _ (.tail _ (.tail _ hq))
    have hD1 : (D1, W.listOf (Value.ref T0 :: lvs).toArray 0) ∈ bs := by rw [hbs]; exact .head _
    have hT0 : (T0, rowO (PF st.row.length) ER tn) ∈ bs := by rw [hbs]; exact .tail _ (.tail _ (.head _))
    have hRL : RowsAt bs (.ref T0 :: lvs) (ER :: es2) (st.row :: st.left) := .cons hT0 (up hER') (hIts'.mono fun _ _ _ _ _ hq => up hq) (hR2'.mono fun q hq _ => up hq)
    have hrefs := hRL.refs
    have hRn := hRL.length
    have hcT : ∀ q ∈ bs, (∀ c', q.2.data ≠ .cell c') → q.1 ≠ L1 + 1 := fun q hq hne => apart2 (o := q.2) (o' := oc) N3 hq (up hcc') (fun e => hne _ (by rw [e]; exact hoc))
    have hPT : ∀ q ∈ bs, q.2.cls ≠ .type "list" → q.1 ≠ P := fun q hq hne => apart (o := q.2) N3 hq (up hP') hne
    (rename _ ∧ (@LT.lt Nat _ T0 D1 ∧ _) => lD1)
    have hDP : D1 ≠ P := Ne.symm (Nat.ne_of_lt (ltOf lD1.2.2 _ hP'))
    have hPe : ∀ e ∈ ER :: es2, e ≠ P := by
      intro e he h
      rw [List.nodup_cons] at hnd'
      exact hnd'.1 (h ▸ List.Mem.tail _ he)
    have hcP : L1 + 1 ≠ P := Ne.symm (hcT _ (up hP') (by intro c'; simp))
    have bX := up hX'
    have bD := up hD'
    have bP := up hP'
    have bL := up hLL'
    have bc := up hcc'
    clear hbs hX' hD' hP' hLL' hcc'
    refine for_listT (fun j m nw => ∃ pw nP3 oc c, ∃ (tn te tl : Tok), RowsAt nw pw ((ER :: es2).take j) ((st.row :: st.left).take j) ∧ (P, W.listOf pw.toArray nP3) ∈ nw ∧ (L1 + 1, oc) ∈ nw ∧ oc.data = .cell c ∧ (∀ q ∈ bs, q.1 ≠ P → q.1 ≠ L1 + 1 → q ∈ nw) ∧
      AllB [(Str.ofString "line", .ref X), (Str.ofString "name", .str (PF st.row.length) tn), (Str.ofString "left", .ref LL), (Str.ofString "early", .int st.early te), (Str.ofString "late", .int st.late tl)] m) rfl F3 N3 hD1 hrefs ?_ ?_ ?_ ?_ (by passes_own)
    · exact ⟨[], _, oc, c, tn, te, tl, .nil, bP, bc, hoc, fun q hq _ _ => hq, rfl, rfl, rfl, rfl, rfl, trivial⟩
    · intro j m nw nw' zq14 hk
      (try dsimp only)
      (try k_fold)
      refine Small.go ?_
      intro gSm hSm
      obtain ⟨pw, nP3, oc, c, tn, te, tl, h1, h2, h3, h4, h5, h6⟩ := zq14
      refine hSm ?_
      clear hSm gSm
      refine ⟨pw, nP3, oc, c, tn, te, tl, h1.mono fun q hq hcs => hk q hq (.inl (hcs.elim (fun h => by rw [h.2.1]; simp) (fun h => by rw [h.1]; simp))), hk _ h2 (.inl (by simp)), hk _ h3 (.inr ⟨_, bc, rfl⟩), h4, fun q hq a b => hk q (h5 q hq a b) (.inr ⟨q, hq, rfl⟩), h6⟩
    · clear N3 F3
      intro j v' m₂ news₂ h2 tk2 I oI s' E' zq15 hv' hc2 hD2 zq16 F₂ N₂ hoffI hE'
      (try dsimp only)
      (try k_fold)
      refine Small.go ?_
      intro gSm hSm
      obtain ⟨g, rfl⟩ := zq15
      obtain ⟨pw, nP3, oc2, c2, tn2, te2, tl2, h1, h2', h3, h4, h5, h6⟩ := zq16
      refine hSm ?_
      clear hSm gSm
      have hj : j < (st.row :: st.left).length := by
        have := (List.getElem?_eq_some_iff.mp hv').1
        rw [← hRn.1]; exact this
      refine Small.go ?_
      intro gSm hSm
      obtain ⟨tj, Ej, vsj, nj, uj, hvj, hej, htj, hEj, hItj⟩ := hRL.get j _ (List.getElem?_eq_getElem hj)
      refine hSm ?_
      clear hSm gSm
      rw [hv'] at hvj
      obtain rfl := Option.some.inj hvj
      first | (refine e0a5 (pull N₂ (.tail _ h3)) ?_; intro rest N3 r1 r2 r3) | (refine e1a4 (pull N₂ (.tail _ h3)) ?_; intro rest N3 r1 r2 r3) | (refine e2a3 (pull N₂ (.tail _ h3)) ?_; intro rest N3 r1 r2 r3) | (refine e3a2 (pull N₂ (.tail _ h3)) ?_; intro rest N3 r1 r2 r3) | (refine e4a1 (pull N₂ (.tail _ h3)) ?_; intro rest N3 r1 r2 r3) | obtain ⟨rest, N3, r1, r2, r3⟩ := pull N₂ (.tail _ h3)
      have go : ∀ {q : Addr × Obj}, q ∈ bs → q.1 ≠ P → q.1 ≠ L1 + 1 → q ∈ rest := fun {q} hq a b => r2 q (.tail _ (h5 q hq a b)) b
      have gT : ∀ {q : Addr × Obj}, q ∈ bs → q.2.cls ≠ .type "list" → (∀ c', q.2.data ≠ .cell c') → q ∈ rest := fun {q} hq a b => go hq (hPT q hq a) (hcT q hq b)
      have gX := gT bX (by simp) (by intro c'; simp)
      have gD := gT bD (by simp) (by intro c'; simp)
      have gt := gT htj (by simp) (by intro c'; simp)
      have gP : (P, W.listOf pw.toArray nP3) ∈ rest := r2 _ (.tail _ h2') (Ne.symm hcP)
      have gI : (I, oI) ∈ rest := r2 _ (.head _) (Ne.symm (hoffI _ bc))
      have hpw : pw.length ≤ 100 := by
        have e1 := h1.length.1
        have e2 := List.length_take_le j (st.row :: st.left)
        have e3 : lvs.length + 1 = st.left.length + 1 := hRn.1
        have e4 : j < st.left.length + 1 := hj
        (first | lia | omega)
      have F4 := Fr.bindA F₂ h6
      have HN2 := Hold.intro N₂
      have gD1 := go hD1 hDP (hcT _ hD1 (by intro c'; simp))
      have gIP : I ≠ P := Ne.symm (hoffI _ bP)
      have up2 : ∀ q ∈ news₂, (q.1 ∈ (ER :: es2).take j ∧ q.2.cls = .type "list" ∧ ∃ xs n, q.2.data = .seq xs n) ∨ (q.2.cls = .type "tuple" ∧ ∃ xs n, q.2.data = .seq xs n) → q ∈ rest ∧ q.1 ≠ P := by
        intro q hq hcs
        have d1 : q.1 ≠ L1 + 1 := apart2 (o := q.2) N₂ (.tail _ hq) (.tail _ h3) (fun e => by
          rcases hcs with ⟨_, _, xs, n, hd⟩ | ⟨_, xs, n, hd⟩ <;> (rw [e, h4] at hd; cases hd))
        have d2 : q.1 ≠ P := by
          rcases hcs with ⟨he, _⟩ | ⟨hc, _⟩
          · exact hPe _ (List.mem_of_mem_take he)
          · exact apart (o := q.2) N₂ (.tail _ hq) (.tail _ h2') (by rw [hc]; simp)
        exact ⟨r2 q (.tail _ hq) d1, d2⟩
      have hrows := h1.mono (fun q hq hcs => (up2 q hq hcs).1)
      clear N₂ F₂ h5
      (try ((with_reducible show wpAny _ _ (execs _ _) _ _ _); (try dsimp only); k_fold))
      k_steps
      refine Hold.intro ?_
      (k_dflt (refine' call_ret (f := 49) (C := c_push (by k_mem) (by k_mem) (by k_mem) (by first | assumption | (first | lia | omega))) (ret := ?_)); (intro un9 uh9 utk9 uP9 uF9 uN9; obtain ⟨uhP9, uhk9⟩ := uP9); (try dsimp only); (try k_sweep))
      k_steps
      refine Hold.intro ?_
      (try (k_unfold; (try dsimp only)))
      unfold FEnd
      dsimp only
      (rename News g1 _ _ _ => N9)
      (rename (P, W.listOf (pw ++ _).toArray _) ∈ _ => hP9)
      (rename ∀ p ∈ _ :: (L1 + 1, _) :: rest, _ → p ∈ _ => hk9)
      (rename @LT.lt Nat _ (L1 + 1) _ ∧ AllLt _ rest => lT9)
      have hT9P := Ne.symm (Nat.ne_of_lt (ltOf lT9.2 _ gP))
      refine ⟨_, _, _, _, rfl, by k_asm, news_dup N9 (hk9 _ (.tail _ (.tail _ gI)) gIP), hk9 _ (.tail _ (.tail _ gD1)) hDP, pw ++ [_], _, _, _, _, _, _, ?_, hP9, hk9 _ (.tail _ (.head _)) hcP, by assumption, fun q hq a b => hk9 _ (.tail _ (.tail _ (go hq a b))) a, rfl, rfl, rfl, rfl, rfl, trivial⟩
      rw [List.take_add_one, List.take_add_one, hej, List.getElem?_eq_getElem hj]
      have hEP : Ej ≠ P := hPe _ (List.mem_of_getElem? hej)
      refine RowsAt.append (h1.mono fun q hq hcs => hk9 _ (.tail _ (.tail _ (up2 q hq hcs).1)) (up2 q hq hcs).2) (.cons (hk9 _ (.head _) hT9P) (hk9 _ (.tail _ (.tail _ (go hEj hEP (hcT _ hEj (by intro c'; simp))))) hEP) (hItj.mono fun a b c e f hq => hk9 _ (.tail _ (.tail _ (gT hq (by simp) (by intro c'; simp)))) (hPT _ hq (by simp))) .nil)
    · clear N3 F3
      intro m₂ news₂ h2 tk2 zq17 F₂ N₂
      (try dsimp only)
      (try k_fold)
      refine Small.go ?_
      intro gSm hSm
      obtain ⟨pw, nP3, oc2, c2, tn2, te2, tl2, h1, h2', h3, h4, h5, h6⟩ := zq17
      refine hSm ?_
      clear hSm gSm
      have eL : (Value.ref T0 :: lvs).length = (st.row :: st.left).length := hRn.1
      rw [List.take_of_length_le (by rw [eL, ← hRn.2]; exact Nat.le_refl _), List.take_of_length_le (Nat.le_of_eq eL.symm)] at h1
      have F4 := Fr.bindA F₂ h6
      have hLP : LL ≠ P := fun h => by
        rw [List.nodup_cons] at hnd'
        exact hnd'.1 (by rw [h]; exact .head _)
      have bL' := h5 _ bL hLP (hcT _ bL (by intro c'; simp))
      have gTup : ∀ i T, lvs[i]? = some (Value.ref T) → ∃ hi : i < st.left.length, ∃ E u, (T, rowO (PF st.left[i].length) E u) ∈ news₂ := by
        intro i T hi
        have hil : i < st.left.length := by
          have := (List.getElem?_eq_some_iff.mp hi).1
          have e3 : lvs.length + 1 = st.left.length + 1 := hRn.1
          (first | lia | omega)
        first | (refine e1a8 (hRL.get (i + 1) st.left[i] (by simp [hil])) ?_; intro t E vs n u a _ c _) | (refine e2a7 (hRL.get (i + 1) st.left[i] (by simp [hil])) ?_; intro t E vs n u a _ c _) | (refine e3a6 (hRL.get (i + 1) st.left[i] (by simp [hil])) ?_; intro t E vs n u a _ c _) | (refine e4a5 (hRL.get (i + 1) st.left[i] (by simp [hil])) ?_; intro t E vs n u a _ c _) | (refine e5a4 (hRL.get (i + 1) st.left[i] (by simp [hil])) ?_; intro t E vs n u a _ c _) | obtain ⟨t, E, vs, n, u, a, _, c, _⟩ := hRL.get (i + 1) st.left[i] (by simp [hil])
        have e : lvs[i]? = some (Value.ref t) := by simpa using a
        rw [hi] at e
        obtain rfl : T = t := by simpa using e
        exact ⟨hil, E, u, h5 _ c (hPT _ c (by simp)) (hcT _ c (by intro c'; simp))⟩
      have hll : lvs.length = st.left.length := by
        have e3 : lvs.length + 1 = st.left.length + 1 := hRn.1
        (first | lia | omega)
      clear F₂
      (try ((with_reducible show wpAny _ _ (execs _ _) _ _ _); (try dsimp only); k_fold))
      k_steps
      refine Hold.intro ?_
      (rename News g1 _ _ _ => N5)
      (rename Fr g1 _ _ _ => F5)
      obtain ⟨bt, hbt⟩ := nameN N5
      rw [← hbt] at N5
      have upt : ∀ {q : Addr × Obj}, q ∈ news₂ → q ∈ bt := fun hq => by rw [hbt]; exact .tail _ hq
      have uniq : ∀ {T : Addr} {o o' : Obj}, (T, o) ∈ bt → (T, o') ∈ bt → o = o' := fun a b => by
        have x := (N5 _ a).1
        have y := (N5 _ b).1
        dsimp only at x y
        rw [x] at y
        exact Option.some.inj y
      obtain ⟨l9, hl9⟩ := name1a (hbt ▸ N5)
      subst hl9
      have hl9 : (l9, W.listOf #[Value.str (PF st.row.length) tn2] 0) ∈ bt := by rw [hbt]; exact .head _
      refine comp_pairs (tups := bt) (J := fun j ys nw => StrsAre ys ((st.left.take j).map fun r => PF r.length)) (by rfl) F5 N5 (upt bL') ?_ (fun q hq => hq) (by decide) (by rfl) (by rfl) (by rfl) (by decide) (by (first | lia | omega)) .nil ?_ ?_ ?_
      · intro v' hv'
        obtain ⟨i, hi⟩ := List.mem_iff_getElem?.mp hv'
        obtain ⟨T, rfl⟩ := hR2'.refs v' hv'
        first | (refine e0a4 (gTup i T hi) ?_; intro _ E u hm) | (refine e1a3 (gTup i T hi) ?_; intro _ E u hm) | (refine e2a2 (gTup i T hi) ?_; intro _ E u hm) | (refine e3a1 (gTup i T hi) ?_; intro _ E u hm) | obtain ⟨_, E, u, hm⟩ := gTup i T hi
        exact ⟨T, _, _, rfl, upt hm⟩
      · rintro i ys nw nw' hs hk
        exact hs
      · clear N5 F5
        intro i T x y I oI C oC D m₃ ys nw h3 tk3 E' s' zq18 hv' hTt hyl hcl hns ha hb hlm htm hs F₃ N₃ off hne
        (try dsimp only)
        (try k_fold)
        first | (refine e0a3 (zq18) ?_; intro g tk' er2; (try clear zq18); subst er2) | (refine e1a2 (zq18) ?_; intro g tk' er2; (try clear zq18); subst er2) | (refine e2a1 (zq18) ?_; intro g tk' er2; (try clear zq18); subst er2) | obtain ⟨g, tk', rfl⟩ := zq18
        first | (refine e0a4 (gTup i T hv') ?_; intro hi E u hm) | (refine e1a3 (gTup i T hv') ?_; intro hi E u hm) | (refine e2a2 (gTup i T hv') ?_; intro hi E u hm) | (refine e3a1 (gTup i T hv') ?_; intro hi E u hm) | obtain ⟨hi, E, u, hm⟩ := gTup i T hv'
        have e := uniq hTt (upt hm)
        have ex : x = .str (PF st.left[i].length) u := by
          have := congrArg Obj.data e
          simp at this
          exact this.1
        subst ex
        (try ((with_reducible show wpAny _ _ (execs _ _) _ _ _); (try dsimp only); k_fold))
        k_steps
        refine Hold.intro ?_
        (try (k_unfold; (try dsimp only)))
        unfold ElEnd
        exact ⟨_, _, _, rfl, by k_asm, by k_asm, .head _, .tail _ (.head _), .tail _ (.tail _ (.head _)), ⟨.tail _ (.tail _ (.tail _ hlm)), fun q hq => .tail _ (.tail _ (.tail _ (htm q hq)))⟩, strs_take hs hi rfl⟩
      · clear N5 F5
        intro C D oC m₃ ys nw h3 tk3 s' zq19 hyl hs _ hall hns F₃ N₃ off hCD hoff
        (try dsimp only)
        (try k_fold)
        obtain ⟨g, rfl⟩ := zq19
        refine post_E F₃ N₃ hns off hCD fun h' F₄ N₄ => ?_
        rw [List.take_of_length_le (Nat.le_of_eq hll.symm)] at hs
        have eL : ∀ zs : List Value, LCg.lst zs = W.listOf zs.toArray zs.length := fun zs => rfl
        rw [eL] at N₄
        have hl9' := hall _ hl9
        have hyl2 : ys.length ≤ 100 := by rw [hyl]; exact hlv
        have aup : ∀ {q : Addr × Obj}, q ∈ news₂ → q ∈ nw := fun hq => hall _ (upt hq)
        clear F₃ N₃
        (try ((with_reducible show wpAny _ _ (execs _ _) _ _ _); (try dsimp only); k_fold))
        k_steps
        refine Hold.intro ?_
        (k_dflt (refine' cat_L ?Fq9 ?Nq9 ?aq9 ?bq9 ?yq9 ?zq9 ?_; (case Fq9 => k_asm); (case Nq9 => k_asm); (case aq9 => k_mem); (case bq9 => k_mem); (case yq9 => first | decide | (simp only [List.length_cons, List.length_nil] at *; (first | lia | omega))); (case zq9 => first | decide | (first | lia | omega))); intro uD' uh' uF' uN' ul1; (try dsimp only [List.cons_append, List.nil_append] at uN'); (try k_lt ul1); (try k_sweep))
        k_steps
        refine hret _ _ _ _ ⟨_, _, _, _, _, _, pw, nP3, ER :: es2, rfl, .head _, .tail _ (.head _), .cons _ _ hs, h1.mono fun q hq _ => .tail _ (.tail _ (.tail _ (aup hq))), .tail _ (.tail _ (.tail _ (aup h2'))), ?_, ?_, ?_⟩ (by k_asm) (by k_asm)
        · exact List.Nodup.sublist (.cons_cons _ (.cons _ (List.Sublist.refl _))) hnd'
        · intro e he
          rcases hes e he with h | h
          · exact .inl h
          · exact .inr fun q hq => h ▸ hnc2 q hq
        · intro q hq a b
          exact .tail _ (.tail _ (.tail _ (aup (h5 q (up (hbase' q hq a b)) a (hnc q hq).1))))
end
end
section
section
local macro_rules | `(tactic| walk_at "call ref") => `(tactic| (k_here; refine Hold.out ?_))
local macro_rules | `(tactic| walk_at "call ref") => `(tactic| (k_here; k_dflt (refine' call_val (f := 82) (C := c_flags (by first | decide | omega | assumption) (by first | decide | omega | assumption)) (ret := ?_)); intro k9 h9 tk9 F9 N9; (try dsimp only); (try k_sweep)))

local macro_rules | `(tactic| walk_at "subscriptTail") => `(tactic| (k_here; (with_reducible show wpAny _ _ (subscriptTail _ _ (Value.ref _) (Value.int _ _)) _ _ _); refine Hold.out ?_))
local macro_rules | `(tactic| walk_at "subscriptTail Name Slice ref ref") => `(tactic| (k_here; (with_reducible show wpAny _ _ (subscriptTail _ (PySem.Expr.Slice _ _ none _) (Value.ref _) (Value.ref _)) _ _ _); k_dflt (refine' slice_L ?F ?N ?l ?p ?q ?e ?_ ?s ?t ?z; (case F => k_asm); (case N => k_asm); (case l => k_mem); (case p => first | exact IsPart.none | exact IsPart.int _ _); (case q => first | exact IsPart.none | exact IsPart.int _ _); (case e => first | exact pick_run2 (by omega) (by omega) (by omega) | exact pick_upto (by omega)); (case s => with_unfolding_all rfl); (case t => kmk_pure); (case z => omega)); intro D' h' F' N' l1; (try k_lt l1); (try k_sweep)))
local macro_rules | `(tactic| walk_at "call builtin:sorted") => `(tactic| (k_here; refine Hold.out ?_))
local macro_rules | `(tactic| walk_at "compareOp NotEq ref ref") => `(tactic| (k_here; refine Hold.out ?_))
local macro_rules | `(tactic| walk_at "FEnd") => `(tactic| (k_here; refine Hold.out ?_))
local macro_rules | `(tactic| walk_at "pyIter ref") => `(tactic| (k_here; (with_reducible show wpAny _ _ (pyIter (Value.ref _)) (fun it s₂ => wpAny _ _ (runOwn _ _) _ _ _) _ _); refine Hold.out ?_))
theorem name2o {g h : Heap} {L : Addr} {a1 a2 : Addr} {o1 o2 : Obj} {news : Led} (N : News g L h ((a1, o1) :: (a2, o2) :: news)) : ∃ q4, q4 = o2 := ⟨_, rfl⟩
def begTo (rs : List (List (Int × Int))) : Nat → Nat
  | 0 => 0
  | i + 1 => begTo rs i + (rs.getD (rs.length - 1 - i) []).length
def cross (rs : List (List (Int × Int))) (j : Nat) : Int := ((rs.take j).flatMap fun nr => nr.map (above (rs.getD j []))).sum
def lateTo (rs : List (List (Int × Int))) : Nat → Int
  | 0 => 0
  | i + 1 => lateTo rs i + cross rs (rs.length - 1 - i)
theorem begTo_le {rs : List (List (Int × Int))} : ∀ i, i ≤ rs.length → begTo rs i = ((rs.drop (rs.length - i)).map (·.length)).sum
  | 0, _ => by simp [begTo]
  | i + 1, h => by
    have e : rs.drop (rs.length - (i + 1)) = rs.getD (rs.length - 1 - i) [] :: rs.drop (rs.length - i) := by
      have hi : rs.length - 1 - i < rs.length := by (first | lia | omega)
      have e1 : rs.length - (i + 1) = rs.length - 1 - i := by (first | lia | omega)
      rw [e1, List.drop_eq_getElem_cons hi]
      have e2 : rs.length - 1 - i + 1 = rs.length - i := by (first | lia | omega)
      rw [e2]
      congr 1
      simp [hi]
    rw [e, List.map_cons, List.sum_cons, ← begTo_le i (by (first | lia | omega))]
    show begTo rs i + _ = _
    (first | lia | omega)
set_option maxRecDepth 100000 in
set_option maxHeartbeats 8000000 in
theorem c_parted {w : World} {loose mean mg mb} {news : Led} {Rw It : Addr} {rwv iv : List Value} {nR nI : Nat} {es : List Addr} {rs : List (List (Int × Int))} {items : List (Int × Int)}
    (hRw : (Rw, W.listOf rwv.toArray nR) ∈ news) (hR : RowsAt news rwv es rs) (hIt : (It, W.listOf iv.toArray nI) ∈ news) (hI : Its news iv items) (hlen : rs.length ≤ 20) (hli : items.length ≤ 31) (hsz : ∀ r ∈ rs, 1 ≤ r.length ∧ r.length ≤ 31 ∧ Sorted r)
    (hpl : ∀ y ∈ items, 0 ≤ y.2 ∧ y.2 < 1000) (hdis : items.Pairwise (fun y z => lexK y ≠ lexK z))
    (hparts : ∀ i, i < rs.length → begTo rs i + (rs.getD (rs.length - 1 - i) []).length ≤ items.length ∧ ((items.drop (begTo rs i)).take (rs.getD (rs.length - 1 - i) []).length).Perm (rs.getD (rs.length - 1 - i) []) ∧ (rs.getD (rs.length - 1 - i) []).Pairwise (fun y z => lexK y < lexK z)) :
    Ctr w loose mean mg mb 5 200 118 [.ref Rw, .ref It] [] news (fun r n => (∃ t, r = .int (lateTo rs rs.length) t) ∧ Sub news n) := by
  unfold Ctr
  k_fill
  intro dp un gd env outer A₀ base h₀ L m s R B F X0 N T hf hke hd hu hret
  have hrl := hR.length
  have hil := hI.length
  k_dflt cell_step
  (try ((with_reducible show wpAny _ _ (execs _ _) _ _ _); (try dsimp only); k_fold))
  k_steps
  refine Hold.intro ?_
  k_fold
  (rename IsRange _ _ _ _ _ _ _ _ => R1)
  (rename Fr _ _ _ _ => F1)
  (rename News _ _ _ _ => N1)
  first | (refine e0a6 (nameL F1) ?_; intro L1 g1 hp1 e1 e2 e3) | (refine e1a5 (nameL F1) ?_; intro L1 g1 hp1 e1 e2 e3) | (refine e2a4 (nameL F1) ?_; intro L1 g1 hp1 e1 e2 e3) | (refine e3a3 (nameL F1) ?_; intro L1 g1 hp1 e1 e2 e3) | (refine e4a2 (nameL F1) ?_; intro L1 g1 hp1 e1 e2 e3) | (refine e5a1 (nameL F1) ?_; intro L1 g1 hp1 e1 e2 e3) | obtain ⟨L1, g1, hp1, e1, e2, e3⟩ := nameL F1
  subst e1 e2 e3
  obtain ⟨oc0, e⟩ := name2o N1
  subst e
  (rename ∀ p ∈ news, _ < _ => lnews)
  (rename Obj.data oc0 = _ => hoc0)
  have hnc : ∀ q ∈ news, q.1 ≠ L1 + 1 := fun q hq => Nat.ne_of_lt (Nat.lt_succ_of_lt (lnews q hq))
  refine for_range2 (n := rs.length) (fun i m nw => Sub news nw ∧ (∃ oc c, (L1 + 1, oc) ∈ nw ∧ oc.data = .cell c) ∧ ∃ (tb tl : Tok),
      AllB [(Str.ofString "rows", .ref Rw), (Str.ofString "items", .ref It), (Str.ofString "begin", .int (begTo rs i : Nat) tb), (Str.ofString "late", .int (lateTo rs i) tl)] m) rfl F1 N1 R1 ?_ ?_ ?_ ?_ ?_ ?_ rfl rfl (by passes_own)
  · exact small_down (by (first | lia | omega)) (by (first | lia | omega)) (by (first | lia | omega)) (by (first | lia | omega))
  · rw [rangeSize_downNat]; (first | lia | omega)
  · exact ⟨fun q hq => .tail _ (.tail _ hq), ⟨oc0, _, .tail _ (.head _), hoc0⟩, _, _, rfl, rfl, rfl, rfl, trivial⟩
  · intro i m nw nw' zq1 hk
    (try dsimp only)
    (try k_fold)
    refine Small.go ?_
    intro gSm hSm
    obtain ⟨h1, ⟨oc, c, h2, h3⟩, tb, tl, h4⟩ := zq1
    refine hSm ?_
    clear hSm gSm
    exact ⟨fun q hq => hk q (h1 q hq) (.inr ⟨q, .tail _ (.tail _ hq), rfl⟩), ⟨oc, c, hk _ h2 (.inr ⟨(L1 + 1, oc0), .tail _ (.head _), rfl⟩), h3⟩, tb, tl, h4⟩
  · clear N1 F1
    intro i t0 m₁ news₁ h tk I oI s' zq2 hi hc zq3 F₁ N₁ hoffI
    (try dsimp only)
    (try k_fold)
    refine Small.go ?_
    intro gSm hSm
    obtain ⟨g, rfl⟩ := zq2
    obtain ⟨h1, ⟨oc, c, h2, h3⟩, tb, tl, h4⟩ := zq3
    refine hSm ?_
    clear hSm gSm
    have hIc : I ≠ L1 + 1 := Ne.symm (hoffI _ (.tail _ (.head _)))
    have hkl : rs.length - 1 - i < rs.length := by (first | lia | omega)
    have hrk : rs[rs.length - 1 - i]? = some (rs.getD (rs.length - 1 - i) []) := by simp [hkl]
    first | (refine e0a3 (hparts i hi) ?_; intro hp1 hp2 hp3) | (refine e1a2 (hparts i hi) ?_; intro hp1 hp2 hp3) | (refine e2a1 (hparts i hi) ?_; intro hp1 hp2 hp3) | obtain ⟨hp1, hp2, hp3⟩ := hparts i hi
    have hbt : begTo rs (i + 1) = begTo rs i + (rs.getD (rs.length - 1 - i) []).length := rfl
    have hlt : lateTo rs (i + 1) = lateTo rs i + cross rs (rs.length - 1 - i) := rfl
    have hcr : cross rs (rs.length - 1 - i) = ((rs.take (rs.length - 1 - i)).flatMap fun nr => nr.map (above (rs.getD (rs.length - 1 - i) []))).sum := rfl
    have hrm : rs.getD (rs.length - 1 - i) [] ∈ rs := List.mem_of_getElem? hrk
    generalize hr : rs.getD (rs.length - 1 - i) [] = r at *
    refine Small.go ?_
    intro gSm hSm
    obtain ⟨t1, E1, vs1, n1, u1, hv1, he1, ht1, hE1, hI1⟩ := hR.get _ _ hrk
    refine hSm ?_
    clear hSm gSm
    have hvl1 := hI1.length
    first | (refine e0a3 (hsz r hrm) ?_; intro hs1 hs2 hs3) | (refine e1a2 (hsz r hrm) ?_; intro hs1 hs2 hs3) | (refine e2a1 (hsz r hrm) ?_; intro hs1 hs2 hs3) | obtain ⟨hs1, hs2, hs3⟩ := hsz r hrm
    unfold Sorted at hs3
    have hcP : ∀ q ∈ news, q.1 ≠ L1 + 1 := hnc
    first | (refine e0a5 (pull N₁ (.tail _ h2)) ?_; intro rest N2 r1 r2 r3) | (refine e1a4 (pull N₁ (.tail _ h2)) ?_; intro rest N2 r1 r2 r3) | (refine e2a3 (pull N₁ (.tail _ h2)) ?_; intro rest N2 r1 r2 r3) | (refine e3a2 (pull N₁ (.tail _ h2)) ?_; intro rest N2 r1 r2 r3) | (refine e4a1 (pull N₁ (.tail _ h2)) ?_; intro rest N2 r1 r2 r3) | obtain ⟨rest, N2, r1, r2, r3⟩ := pull N₁ (.tail _ h2)
    have go : Sub news rest := fun q hq => r2 q (.tail _ (h1 q hq)) (hnc q hq)
    have gI : (I, oI) ∈ rest := r2 _ (.head _) hIc
    have hRw' := go _ hRw
    have hIt' := go _ hIt
    have ht1' := go _ ht1
    have hE1' := go _ hE1
    have F2 := Fr.bindX F₁ h4
    have hb1 : begTo rs i + vs1.length ≤ iv.length := by (first | lia | omega)
    have hwl : rwv.length ≤ 1000 := by (first | lia | omega)
    have hwi : iv.length ≤ 1000 := by (first | lia | omega)
    clear F₁ N₁
    (try ((with_reducible show wpAny _ _ (execs _ _) _ _ _); (try dsimp only); k_fold))
    k_steps
    refine Hold.intro ?_
    have hidx : (↑rwv.length - 1 + ↑i * (-1) : Int).toNat = rs.length - 1 - i := by (first | lia | omega)
    k_dflt (refine' item_list (News.isList (by k_asm) (.tail _ hRw')) ?_ ?_ (by rw [List.getElem?_toArray, hidx]; exact hv1) ?_)
    · (first | lia | omega)
    · (first | lia | omega)
    (try ((with_reducible show wpAny _ _ (execs _ _) _ _ _); (try dsimp only); k_fold))
    k_steps
    refine Hold.intro ?_
    (rename News g1 _ _ _ => N3)
    (rename Fr g1 _ _ _ => F3)
    obtain ⟨oc2, e⟩ := name2o N3
    subst e
    (rename Obj.data oc2 = _ => hoc2)
    have eb : ((begTo rs i : Nat) : Int).toNat = begTo rs i := by (first | lia | omega)
    have ea : ((begTo rs i : Nat) + (vs1.length : Nat) : Int).toNat - begTo rs i = r.length := by (first | lia | omega)
    rw [eb, ea] at N3
    have hsl := ((hI.drop (begTo rs i)).take r.length)
    have hslen : ((items.drop (begTo rs i)).take r.length).length = r.length := hp2.length_eq
    refine sorted_pairs F3 N3 (.head _) (hsl.mono fun _ _ _ _ _ hq => .tail _ (.tail _ (go _ hq))) (by (first | lia | omega)) (by (first | lia | omega)) (fun y hy => hpl y (List.mem_of_mem_drop (List.mem_of_mem_take hy))) (hdis.sublist ((List.take_sublist _ _).trans (List.drop_sublist _ _))) ?_
    intro Ds hs4 cs vs' ys F4 N4 hlt4 hIt4 hperm hpw
    obtain rfl : r = ys := lex_uniq (hp2.symm.trans hperm.symm) hp3 hpw
    clear N3 F3
    (try ((with_reducible show wpAny _ _ (execs _ _) _ _ _); (try dsimp only); k_fold))
    k_steps
    refine Hold.intro ?_
    refine ne_pairs (by k_asm) (.tail _ (.tail _ (.tail _ hE1'))) (.head _) (hI1.mono fun _ _ _ _ _ hq => .tail _ (.tail _ (.tail _ (go _ hq)))) (hIt4.mono fun _ _ _ _ _ hq => .tail _ hq) rfl (by ktr_units) ?_
    have hv1a : 1 ≤ vs1.length := by (first | lia | omega)
    have hv1b : vs1.length ≤ 31 := by (first | lia | omega)
    (try ((with_reducible show wpAny _ _ (execs _ _) _ _ _); (try dsimp only); k_fold))
    k_steps
    · exfalso
      (rename (PF r.length != PF vs1.length) = true => hne)
      rw [hvl1] at hne
      simp at hne
    · refine Hold.intro ?_
      (rename News g1 _ _ _ => N5)
      (rename Fr g1 _ _ _ => F5)
      rw [hidx] at N5
      refine Small.go ?_
      intro gSm hSm
      obtain ⟨bs, hbs⟩ := nameN N5
      obtain ⟨Dr, e⟩ := name1a N5
      refine hSm ?_
      clear hSm gSm
      subst e
      rw [← hbs] at N5
      have hDr : (Dr, W.listOf (rwv.take (rs.length - 1 - i)).toArray 0) ∈ bs := by rw [hbs]; exact .head _
      have hcb : (L1 + 1, oc2) ∈ bs := by rw [hbs]; exact .tail _ (.tail _ (.tail _ (.head _)))
      have gob : Sub news bs := fun q hq => by rw [hbs]; exact .tail _ (.tail _ (.tail _ (.tail _ (go q hq))))
      have gIb : (I, oI) ∈ bs := by rw [hbs]; exact .tail _ (.tail _ (.tail _ (.tail _ gI)))
      clear hbs
      have htl : (rwv.take (rs.length - 1 - i)).length = rs.length - 1 - i := by rw [List.length_take]; (first | lia | omega)
      refine comp_nest (J := fun j ys nw => Sub bs nw ∧ IntsAre ys ((rs.take j).flatMap fun nr => nr.map (above r)) ∧ ys.length ≤ j * 31) (by rfl) F5 N5 hDr (by decide) (by rfl) (by rfl) ⟨Sub.refl _, .nil, by simp⟩ (by intro _ _; rfl) ?_ ?_ ?_
      · intro j ys nw nw' zq4 hk
        (try dsimp only)
        (try k_fold)
        obtain ⟨hs, hy⟩ := zq4
        exact ⟨hs.kept hk, hy⟩
      · clear N5 F5
        intro j v' I2 oI2 C oC D m₂ ys nw h5 tk5 E' s5 zq5 hv' hcl2 hns hm hDr' zq6 F₂ N₂ off hne hoff
        (try dsimp only)
        (try k_fold)
        first | (refine e0a3 (zq5) ?_; intro g5 tk6 er2; (try clear zq5); subst er2) | (refine e1a2 (zq5) ?_; intro g5 tk6 er2; (try clear zq5); subst er2) | (refine e2a1 (zq5) ?_; intro g5 tk6 er2; (try clear zq5); subst er2) | obtain ⟨g5, tk6, rfl⟩ := zq5
        first | (refine e0a3 (zq6) ?_; intro hs hy hyl; (try clear zq6)) | (refine e1a2 (zq6) ?_; intro hs hy hyl; (try clear zq6)) | (refine e2a1 (zq6) ?_; intro hs hy hyl; (try clear zq6)) | obtain ⟨hs, hy, hyl⟩ := zq6
        have hj : j < rs.length - 1 - i := by
          have := (List.getElem?_eq_some_iff.mp hv').1
          (first | lia | omega)
        have hjl : j < rs.length := by (first | lia | omega)
        have hrj : rs[j]? = some rs[j] := List.getElem?_eq_getElem hjl
        refine Small.go ?_
        intro gSm hSm
        obtain ⟨tj, Ej, vsj, nj, uj, hvj, hej, htj, hEj, hIj⟩ := hR.get j _ hrj
        refine hSm ?_
        clear hSm gSm
        rw [List.getElem?_take_of_lt hj, hvj] at hv'
        obtain rfl := Option.some.inj hv'
        first | (refine e0a3 (hsz _ (List.getElem_mem hjl)) ?_; intro hz1 hz2 hz3) | (refine e1a2 (hsz _ (List.getElem_mem hjl)) ?_; intro hz1 hz2 hz3) | (refine e2a1 (hsz _ (List.getElem_mem hjl)) ?_; intro hz1 hz2 hz3) | obtain ⟨hz1, hz2, hz3⟩ := hsz _ (List.getElem_mem hjl)
        have htj' := hs _ (gob _ htj)
        have hEj' := hs _ (gob _ hEj)
        (try ((with_reducible show wpAny _ _ (execs _ _) _ _ _); (try dsimp only); k_fold))
        k_steps
        refine Hold.intro ?_
        k_dflt (refine' item_tupleT ?zt ?za ?zb ?zc ?zd ?_; (case zt => exact News.isTup (by k_asm) (by k_mem)); (case za => decide); (case zb => decide); (case zc => rfl); (case zd => rfl); k_whole)
        (try ((with_reducible show wpAny _ _ (execs _ _) _ _ _); (try dsimp only); k_fold))
        k_steps
        refine Hold.intro ?_
        refine inner_emit (iso := [(I2, oI2)]) (m₀ := m₂) (fun q zs _ nw' => (I2, oI2) ∈ nw' ∧ (Dr, W.listOf (rwv.take (rs.length - 1 - i)).toArray 0) ∈ nw' ∧ Sub bs nw' ∧ IntsAre zs ((rs.take j).flatMap (fun nr => nr.map (above r)) ++ (rs[j].take q).map (above r)) ∧ zs.length ≤ j * 31 + q ∧ q ≤ 31) rfl (by rfl) (by k_asm) (by k_asm) hns ?_ hne.2.2 hEj' (by rfl) (by rfl) ?_ ?_ ?_ ?_ ?_
        · intro q hq
          rcases List.mem_cons.mp hq with rfl | hq
          · exact ⟨hne.1, hne.2.1⟩
          · exact ⟨(off.mem q hq).2.1, (off.mem q hq).2.2⟩
        · exact ⟨.head _, .tail _ hDr', fun q hq => .tail _ (hs q hq), by simpa using hy, by (first | lia | omega), by (first | lia | omega)⟩
        · intro q zs m₁ n zq7
          (try dsimp only)
          (try k_fold)
          first | (refine e0a6 (zq7) ?_; intro _ _ _ _ h5 h6; (try clear zq7)) | (refine e1a5 (zq7) ?_; intro _ _ _ _ h5 h6; (try clear zq7)) | (refine e2a4 (zq7) ?_; intro _ _ _ _ h5 h6; (try clear zq7)) | (refine e3a3 (zq7) ?_; intro _ _ _ _ h5 h6; (try clear zq7)) | (refine e4a2 (zq7) ?_; intro _ _ _ _ h5 h6; (try clear zq7)) | (refine e5a1 (zq7) ?_; intro _ _ _ _ h5 h6; (try clear zq7)) | obtain ⟨_, _, _, _, h5, h6⟩ := zq7
          (first | lia | omega)
        · intro q zs m₁ n n' zq8 hk
          (try dsimp only)
          (try k_fold)
          first | (refine e0a4 (zq8) ?_; intro a1 a2 a3 a4; (try clear zq8)) | (refine e1a3 (zq8) ?_; intro a1 a2 a3 a4; (try clear zq8)) | (refine e2a2 (zq8) ?_; intro a1 a2 a3 a4; (try clear zq8)) | (refine e3a1 (zq8) ?_; intro a1 a2 a3 a4; (try clear zq8)) | obtain ⟨a1, a2, a3, a4⟩ := zq8
          exact ⟨hk _ a1 (.inr ⟨_, .head _, rfl⟩), hk _ a2 (.inr ⟨_, .tail _ hDr', rfl⟩), fun p hp => hk p (a3 p hp) (.inr ⟨p, .tail _ (hs p hp), rfl⟩), a4⟩
        · intro q v' I3 oI3 oC3 m₃ zs nw' h6 tk6 E3 s6 zq9 hv6 zq10 hns3 hc3 hl3 F₃ N₃ off3 hne3 hoff3
          (try dsimp only)
          (try k_fold)
          first | (refine e0a3 (zq9) ?_; intro g6 tk7 er2; (try clear zq9); subst er2) | (refine e1a2 (zq9) ?_; intro g6 tk7 er2; (try clear zq9); subst er2) | (refine e2a1 (zq9) ?_; intro g6 tk7 er2; (try clear zq9); subst er2) | obtain ⟨g6, tk7, rfl⟩ := zq9
          first | (refine e0a6 (zq10) ?_; intro a1 a2 a3 a4 a5 a6; (try clear zq10)) | (refine e1a5 (zq10) ?_; intro a1 a2 a3 a4 a5 a6; (try clear zq10)) | (refine e2a4 (zq10) ?_; intro a1 a2 a3 a4 a5 a6; (try clear zq10)) | (refine e3a3 (zq10) ?_; intro a1 a2 a3 a4 a5 a6; (try clear zq10)) | (refine e4a2 (zq10) ?_; intro a1 a2 a3 a4 a5 a6; (try clear zq10)) | (refine e5a1 (zq10) ?_; intro a1 a2 a3 a4 a5 a6; (try clear zq10)) | obtain ⟨a1, a2, a3, a4, a5, a6⟩ := zq10
          have hq : q < rs[j].length := by
            have := (List.getElem?_eq_some_iff.mp hv6).1
            rw [← hIj.length]; exact this
          first | (refine e0a5 (hIj.get q _ (List.getElem?_eq_getElem hq)) ?_; intro tm km um hvm hmm) | (refine e1a4 (hIj.get q _ (List.getElem?_eq_getElem hq)) ?_; intro tm km um hvm hmm) | (refine e2a3 (hIj.get q _ (List.getElem?_eq_getElem hq)) ?_; intro tm km um hvm hmm) | (refine e3a2 (hIj.get q _ (List.getElem?_eq_getElem hq)) ?_; intro tm km um hvm hmm) | (refine e4a1 (hIj.get q _ (List.getElem?_eq_getElem hq)) ?_; intro tm km um hvm hmm) | obtain ⟨tm, km, um, hvm, hmm⟩ := hIj.get q _ (List.getElem?_eq_getElem hq)
          rw [hv6] at hvm
          obtain rfl := Option.some.inj hvm
          replace hmm := a3 _ (gob _ hmm)
          have hE3 := a3 _ (gob _ hE1)
          have hI3 : Its nw' vs1 r := hI1.mono fun _ _ _ _ _ hq => a3 _ (gob _ hq)
          have hc5 := a3 _ hcb
          have hm3 : (fun z => if z = Str.ofString "mate" then some (Value.ref tm) else m₃ z) (Str.ofString "mate") = some (Value.ref tm) := by simp
          generalize (fun z => if z = Str.ofString "mate" then some (Value.ref tm) else m₃ z) = m4 at hns3 hm3
          clear hI1 hIj hE1 hEj hE1' hEj'
          (try ((with_reducible show wpAny _ _ (execs _ _) _ _ _); (try dsimp only); k_fold))
          k_steps
          refine Hold.intro ?_
          (k_dflt (refine' call_val (f := 108) (C := c_above (by k_mem) (by first | assumption | exact Its.mono (by assumption) (fun _ _ _ _ _ h => by k_mem)) (by k_mem) (by first | assumption | (first | lia | omega)) (by assumption)) (ret := ?_)); intro uk9 uh9 utk9 uF9 uN9; (try dsimp only); (try k_sweep))
          k_steps
          refine Hold.intro ?_
          (try (k_unfold; (try dsimp only)))
          unfold ElEnd
          refine ⟨_, _, _, rfl, by k_asm, by k_asm, .head _, .tail _ (.head _), .tail _ (.tail _ (.head _)), .tail _ (.tail _ (.tail _ hl3)), .tail _ (.tail _ (.tail _ a1)), .tail _ (.tail _ (.tail _ a2)), fun p hp => .tail _ (.tail _ (.tail _ (a3 p hp))), ?_, by simp; (first | lia | omega), by (first | lia | omega)⟩
          rw [List.take_add_one, List.getElem?_eq_getElem hq, List.map_append, ← List.append_assoc]
          exact a4.append (.cons _ _ .nil)
        · intro oC3 m₃ zs nw' h6 tk6 zq11 hl3 hns3 F₃ N₃ off3
          (try dsimp only)
          (try k_fold)
          first | (refine e0a6 (zq11) ?_; intro a1 a2 a3 a4 a5 a6; (try clear zq11)) | (refine e1a5 (zq11) ?_; intro a1 a2 a3 a4 a5 a6; (try clear zq11)) | (refine e2a4 (zq11) ?_; intro a1 a2 a3 a4 a5 a6; (try clear zq11)) | (refine e3a3 (zq11) ?_; intro a1 a2 a3 a4 a5 a6; (try clear zq11)) | (refine e4a2 (zq11) ?_; intro a1 a2 a3 a4 a5 a6; (try clear zq11)) | (refine e5a1 (zq11) ?_; intro a1 a2 a3 a4 a5 a6; (try clear zq11)) | obtain ⟨a1, a2, a3, a4, a5, a6⟩ := zq11
          refine ⟨h6, tk6, oC3, m₃, zs, _, rfl, F₃, N₃, fun q hq => ?_, .head _, hns3, .tail _ (.head _), .tail _ (.tail _ a2), fun p hp => .tail _ (.tail _ (a3 p hp)), ?_, ?_⟩
          · rw [List.mem_singleton.mp hq]; exact .tail _ (.tail _ a1)
          · rw [List.take_of_length_le (l := rs[j]) (by rw [hIj.length]; exact Nat.le_refl _)] at a4
            have e : (rs.take (j + 1)).flatMap (fun nr => nr.map (above r)) = (rs.take j).flatMap (fun nr => nr.map (above r)) ++ rs[j].map (above r) := by
              rw [List.take_add_one, hrj, List.flatMap_append]
              show _ ++ [rs[j]].flatMap _ = _
              simp only [List.flatMap_cons, List.flatMap_nil, List.append_nil]
            show IntsAre zs ((rs.take (j + 1)).flatMap _)
            rw [e]
            exact a4
          · have := hIj.length
            (first | lia | omega)
      · clear N5 F5
        intro C D oC m₂ ys nw h5 tk5 s5 zq12 zq13 hDr' hns F₂ N₂ off hCD hoff
        (try dsimp only)
        (try k_fold)
        obtain ⟨g5, rfl⟩ := zq12
        first | (refine e0a3 (zq13) ?_; intro hs hy hyl; (try clear zq13)) | (refine e1a2 (zq13) ?_; intro hs hy hyl; (try clear zq13)) | (refine e2a1 (zq13) ?_; intro hs hy hyl; (try clear zq13)) | obtain ⟨hs, hy, hyl⟩ := zq13
        refine post_E F₂ N₂ hns off hCD fun h' F₃ N₃ => ?_
        rw [htl] at hy
        clear F₂ N₂
        (try ((with_reducible show wpAny _ _ (execs _ _) _ _ _); (try dsimp only); k_fold))
        k_steps
        refine Hold.intro ?_
        (try (k_unfold; (try dsimp only)))
        unfold FEnd
        dsimp only
        have hbeg : ((begTo rs i : Nat) + (vs1.length : Nat) : Int) = ((begTo rs (i + 1) : Nat) : Int) := by rw [hbt, hvl1]; (first | lia | omega)
        have hlate : lateTo rs i + ((rs.take (rs.length - 1 - i)).flatMap fun nr => nr.map (above r)).sum = lateTo rs (i + 1) := by rw [hlt, hcr]
        exact ⟨_, _, _, _, rfl, by k_asm, news_dup (by k_asm) (.tail _ (hs _ gIb)), trivial, fun q hq => .tail _ (hs _ (gob q hq)), ⟨oc2, _, .tail _ (hs _ hcb), hoc2⟩, _, _, rfl, rfl, congrArg (fun z => some (Value.int z _)) hbeg, congrArg (fun z => some (Value.int z _)) hlate, trivial⟩
  · clear N1 F1
    intro m₁ news₁ h tk zq14 F₁ N₁
    (try dsimp only)
    (try k_fold)
    refine Small.go ?_
    intro gSm hSm
    obtain ⟨h1, ⟨oc, c, h2, h3⟩, tb, tl, h4⟩ := zq14
    refine hSm ?_
    clear hSm gSm
    have F2 := Fr.bindA F₁ h4
    clear F₁
    (try ((with_reducible show wpAny _ _ (execs _ _) _ _ _); (try dsimp only); k_fold))
    k_steps
    exact hret _ _ _ _ ⟨⟨_, rfl⟩, h1⟩ (by k_asm) (by k_asm)
end
end
section
section
set_option maxRecDepth 100000
def cellF (n : Int) : Int := n.fmod 1000000
def itemOf (c : Int) (i : Nat) : Int × Int := (c.fmod 41 - 20, (i : Int))
def itemsFrom : Nat → List Int → List (Int × Int)
  | _, [] => []
  | k, c :: r => itemOf c k :: itemsFrom (k + 1) r
theorem itemsFrom_length : ∀ (k : Nat) (l : List Int), (itemsFrom k l).length = l.length
  | _, [] => rfl
  | k, c :: r => by rw [itemsFrom, List.length_cons, itemsFrom_length, List.length_cons]
theorem itemsFrom_get : ∀ (k : Nat) (l : List Int) (i : Nat) (hi : i < l.length), (itemsFrom k l)[i]? = some (itemOf l[i] (k + i))
  | _, [], _, hi => by simp at hi
  | k, c :: r, 0, _ => by simp [itemsFrom]
  | k, c :: r, i + 1, hi => by
    rw [itemsFrom, List.getElem?_cons_succ, itemsFrom_get (k + 1) r i (by simpa using hi)]
    have e : k + 1 + i = k + (i + 1) := by (first | lia | omega)
    rw [e]; rfl
def cellsOf (ns : List Int) : List Int := [25, 66, 100, 20, 22, 141, 58] ++ (ns.take 12).map cellF
def word3 (v : Int) (k : Nat) : Str := wordT v (k : Nat)
theorem wordT_mod (v m : Int) : wordT v m = word3 v (m.fmod 3).toNat := by
  have h1 := Int.fmod_nonneg_of_pos m (b := 3) (by (first | lia | omega))
  have h2 := Int.fmod_lt_of_pos m (b := 3) (by (first | lia | omega))
  unfold word3 wordT
  have e : (((m.fmod 3).toNat : Nat) : Int).fmod 3 = m.fmod 3 := by
    have e1 : (((m.fmod 3).toNat : Nat) : Int) = m.fmod 3 := by (first | lia | omega)
    rw [e1, Int.fmod_eq_emod_of_nonneg _ (by (first | lia | omega))]
    (first | lia | omega)
  rw [e]
theorem wordT_len {v m : Int} (h1 : -20 ≤ v) (h2 : v ≤ 20) : (wordT v m).length ≤ 12 := by
  have : ∀ n : Fin 41, ∀ k : Fin 3, (word3 ((n : Nat) - 20 : Int) k).length ≤ 12 := by decide +kernel
  have h3 := Int.fmod_nonneg_of_pos m (b := 3) (by (first | lia | omega))
  have h4 := Int.fmod_lt_of_pos m (b := 3) (by (first | lia | omega))
  have h := this ⟨(v + 20).toNat, by (first | lia | omega)⟩ ⟨(m.fmod 3).toNat, by (first | lia | omega)⟩
  have e : (((⟨(v + 20).toNat, by (first | lia | omega)⟩ : Fin 41) : Nat) - 20 : Int) = v := by dsimp only; (first | lia | omega)
  rw [wordT_mod]
  rwa [e] at h
def wOf (c : Int) : Str := wordT (c.fmod 41 - 20) (c.fdiv 41)
theorem cells_bnd {ns : List Int} : ∀ c ∈ cellsOf ns, 0 ≤ c ∧ c < 1000000 := by
  intro c hc
  unfold cellsOf at hc
  rcases List.mem_append.mp hc with hc | hc
  · have : ∀ c ∈ ([25, 66, 100, 20, 22, 141, 58] : List Int), 0 ≤ c ∧ c < 1000000 := by decide
    exact this c hc
  · obtain ⟨n, _, rfl⟩ := List.mem_map.mp hc
    exact ⟨Int.fmod_nonneg_of_pos _ (by (first | lia | omega)), Int.fmod_lt_of_pos _ (by (first | lia | omega))⟩
theorem cell_args {c : Int} (h1 : 0 ≤ c) (h2 : c < 1000000) : -20 ≤ c.fmod 41 - 20 ∧ c.fmod 41 - 20 ≤ 20 ∧ 0 ≤ c.fdiv 41 ∧ c.fdiv 41 ≤ 1000000 := by
  have a := Int.fmod_nonneg_of_pos c (b := 41) (by (first | lia | omega))
  have b := Int.fmod_lt_of_pos c (b := 41) (by (first | lia | omega))
  have e := Int.fdiv_eq_ediv_of_nonneg c (b := 41) (by (first | lia | omega))
  rw [e]
  (first | lia | omega)
theorem strsA_take {f : Int → Str} {ys : List Value} {row : List Int} {j : Nat} {t : Tok} {z : Str} (h : StrsAre ys ((row.take j).map f)) (hj : j < row.length) (hz : z = f row[j]) : StrsAre (ys ++ [.str z t]) ((row.take (j + 1)).map f) := by
  rw [List.take_add_one, List.getElem?_eq_getElem hj, List.map_append]
  exact strs_append h (by rw [hz]; exact .cons _ _ .nil)
theorem text_weight {l : List Int} (h : ∀ c ∈ l, 0 ≤ c ∧ c < 1000000) : ((l.map wOf).map (·.length)).sum ≤ 12 * l.length := by
  induction l with
  | nil => simp
  | cons c r ih =>
    have := ih fun d hd => h d (.tail _ hd)
    have hc := cell_args (h c (.head _)).1 (h c (.head _)).2
    have e : (wOf c).length ≤ 12 := wordT_len hc.1 hc.2.1
    rw [List.map_cons, List.map_cons, List.sum_cons, List.length_cons]
    (first | lia | omega)

theorem Ctr.mono {w : World} {loose : List Str} {mean : ExcName → Option Value} {mg mb : Str → Option Value} {kd ku : Nat} {f : Addr} {vs : List Value} {kws : List (Str × Value)} {news : Led} {Post Post' : Value → Led → Prop}
    (h : Ctr w loose mean mg mb kd ku f vs kws news Post) (hp : ∀ r n, Post r n → Post' r n) : Ctr w loose mean mg mb kd ku f vs kws news Post' :=
  fun dp un gd env outer A₀ base h₀ L m s R B F X N T hf hk hd hu ret => h dp un gd env outer A₀ base h₀ L m s R B F X N T hf hk hd hu fun r n h' tk' hP => ret r n h' tk' (hp r n hP)
theorem by41 {P : Int → Prop} (h : ∀ n : Fin 41, P ((n : Nat) - 20 : Int)) {v : Int} (h1 : -20 ≤ v) (h2 : v ≤ 20) : P v := by
  have e : (((⟨(v + 20).toNat, by (first | lia | omega)⟩ : Fin 41) : Nat) - 20 : Int) = v := by dsimp only; (first | lia | omega)
  have := h ⟨(v + 20).toNat, by (first | lia | omega)⟩
  rwa [e] at this
def tag (e : Bool) (x : Str) : List (Bool × Str) := (signs x).map fun c => (e, c)
theorem w0_signs {v : Int} (h1 : -20 ≤ v) (h2 : v ≤ 20) : signs (word3 v 0) = encP (tag false (numT v)) ++ [Str.ofString " "] := by41 (P := fun v => signs (word3 v 0) = encP (tag false (numT v)) ++ [Str.ofString " "]) (by decide +kernel) h1 h2
theorem w1_signs {v : Int} (h1 : -20 ≤ v) (h2 : v ≤ 20) : signs (word3 v 1) = Str.ofString "\"" :: (signs (numT v) ++ [Str.ofString "\""]) := by41 (P := fun v => signs (word3 v 1) = Str.ofString "\"" :: (signs (numT v) ++ [Str.ofString "\""])) (by decide +kernel) h1 h2
theorem w2_signs {v : Int} (h1 : -20 ≤ v) (h2 : v ≤ 20) : signs (word3 v 2) = encP (tag true (numT v)) ++ [Str.ofString "\n"] := by41 (P := fun v => signs (word3 v 2) = encP (tag true (numT v)) ++ [Str.ofString "\n"]) (by decide +kernel) h1 h2
theorem tag_txt {v : Int} (h1 : -20 ≤ v) (h2 : v ≤ 20) : txtP (Str.ofString "") (tag false (numT v)) = numT v ∧ txtP (Str.ofString "") (tag true (numT v)) = numT v ∧ (signs (numT v)).foldl (· ++ ·) (Str.ofString "") = numT v ∧ (signs (numT v)).isEmpty = false ∧ (signs (numT v)).length ≤ 3 :=
  by41 (P := fun v => txtP (Str.ofString "") (tag false (numT v)) = numT v ∧ txtP (Str.ofString "") (tag true (numT v)) = numT v ∧ (signs (numT v)).foldl (· ++ ·) (Str.ofString "") = numT v ∧ (signs (numT v)).isEmpty = false ∧ (signs (numT v)).length ≤ 3) (by decide +kernel) h1 h2
theorem num_plain {v : Int} (h1 : -20 ≤ v) (h2 : v ≤ 20) : ∀ c ∈ signs (numT v), Plain c := by
  have h := by41 (P := fun v => ∀ c ∈ signs (numT v), (Builtin.Str.occurrences (Str.ofString "\n\t\r ") c 0 (Str.length (Str.ofString "\n\t\r ")) 1).isEmpty = true ∧ (c == Str.ofString "\"") = false ∧ (c == Str.ofString "\\") = false ∧ c ≠ Str.ofString "" ∧ ¬ c = Str.ofString "\n" ∧ c.length = 1) (by decide +kernel) h1 h2
  intro c hc
  first | (refine e0a6 (h c hc) ?_; intro a1 a2 a3 a4 a5 a6) | (refine e1a5 (h c hc) ?_; intro a1 a2 a3 a4 a5 a6) | (refine e2a4 (h c hc) ?_; intro a1 a2 a3 a4 a5 a6) | (refine e3a3 (h c hc) ?_; intro a1 a2 a3 a4 a5 a6) | (refine e4a2 (h c hc) ?_; intro a1 a2 a3 a4 a5 a6) | (refine e5a1 (h c hc) ?_; intro a1 a2 a3 a4 a5 a6) | obtain ⟨a1, a2, a3, a4, a5, a6⟩ := h c hc
  exact ⟨a1, a2, a3, a4, a5, a6⟩
def nlOf (c : Int) : Int := if (c.fdiv 41).fmod 3 = 2 then 1 else 0
end
end
section
section
set_option maxRecDepth 100000
theorem tag_mem {e : Bool} {x : Str} {p : Bool × Str} (h : p ∈ tag e x) : p.2 ∈ signs x := by
  first | (refine e0a3 (List.mem_map.mp h) ?_; intro c hc er2; subst er2) | (refine e1a2 (List.mem_map.mp h) ?_; intro c hc er2; subst er2) | (refine e2a1 (List.mem_map.mp h) ?_; intro c hc er2; subst er2) | obtain ⟨c, hc, rfl⟩ := List.mem_map.mp h
  exact hc
theorem tag_cons {e : Bool} {x : Str} (h : (signs x).isEmpty = false) : ∃ c r, tag e x = (e, c) :: r ∧ r.length + 1 = (signs x).length := by
  unfold tag
  cases hs : signs x with
  | nil => rw [hs] at h; cases h
  | cons c r => exact ⟨c, r.map fun c => (e, c), rfl, by simp⟩
theorem c_tok {w : World} {loose mean mg mb} {news : Led} {X : LexIds} {ln : Int} {c : Int} {rest : List Str} {nP : Nat} (h0 : 0 ≤ c) (h1 : c < 1000000) (H : LexF w X ln (signs (wOf c) ++ rest) news) (hP : (X.P, W.listOf [].toArray nP) ∈ news) (P : Piece w loose mean mg mb X) (hz : (signs (wOf c) ++ rest).length ≤ 600) :
    Ctr w loose mean mg mb 6 90 42 [.ref X.x] [] news (fun r n => (∃ t, r = .str (numT (c.fmod 41 - 20)) t) ∧ LexF w X (ln + nlOf c) rest n ∧ ∀ p ∈ news, p.1 ≠ X.d → p.1 ≠ X.G → p ∈ n) := by
  first | (refine e0a4 (cell_args h0 h1) ?_; intro a1 a2 a3 a4) | (refine e1a3 (cell_args h0 h1) ?_; intro a1 a2 a3 a4) | (refine e2a2 (cell_args h0 h1) ?_; intro a1 a2 a3 a4) | (refine e3a1 (cell_args h0 h1) ?_; intro a1 a2 a3 a4) | obtain ⟨a1, a2, a3, a4⟩ := cell_args h0 h1
  first | (refine e0a5 (tag_txt a1 a2) ?_; intro t1 t2 t3 t4 t5) | (refine e1a4 (tag_txt a1 a2) ?_; intro t1 t2 t3 t4 t5) | (refine e2a3 (tag_txt a1 a2) ?_; intro t1 t2 t3 t4 t5) | (refine e3a2 (tag_txt a1 a2) ?_; intro t1 t2 t3 t4 t5) | (refine e4a1 (tag_txt a1 a2) ?_; intro t1 t2 t3 t4 t5) | obtain ⟨t1, t2, t3, t4, t5⟩ := tag_txt a1 a2
  have hpl := num_plain a1 a2
  have g1 := Int.fmod_nonneg_of_pos (c.fdiv 41) (b := 3) (by (first | lia | omega))
  have g2 := Int.fmod_lt_of_pos (c.fdiv 41) (b := 3) (by (first | lia | omega))
  have ew : wOf c = word3 (c.fmod 41 - 20) ((c.fdiv 41).fmod 3).toNat := wordT_mod _ _
  unfold nlOf
  generalize hv : c.fmod 41 - 20 = v at *
  obtain hk | hk | hk : (c.fdiv 41).fmod 3 = 0 ∨ (c.fdiv 41).fmod 3 = 1 ∨ (c.fdiv 41).fmod 3 = 2 := by (first | lia | omega)
  · rw [ew, hk] at H hz
    rw [show (0 : Int).toNat = 0 from rfl, w0_signs a1 a2, List.append_assoc] at H hz
    first | (refine e0a4 (tag_cons (e := false) t4) ?_; intro c0 ps e hl) | (refine e1a3 (tag_cons (e := false) t4) ?_; intro c0 ps e hl) | (refine e2a2 (tag_cons (e := false) t4) ?_; intro c0 ps e hl) | (refine e3a1 (tag_cons (e := false) t4) ?_; intro c0 ps e hl) | obtain ⟨c0, ps, e, hl⟩ := tag_cons (e := false) t4
    rw [e] at H hz t1
    have hm : ∀ p ∈ (false, c0) :: ps, Plain p.2 := fun p hp => hpl _ (tag_mem (e ▸ hp))
    refine (c_get (term := Str.ofString " ") (rest := rest) H hP P (by simpa using Nat.le_trans hz (by (first | lia | omega))) hm (by (first | lia | omega)) (by decide +kernel) (by decide)).mono fun r n hr => ?_
    refine Small.go ?_
    intro gSm hSm
    obtain ⟨⟨t, hr1⟩, hr2, hr3⟩ := hr
    refine hSm ?_
    clear hSm gSm
    rw [if_neg (by decide)] at hr2
    rw [if_neg (by (first | lia | omega)), Int.add_zero]
    exact ⟨⟨t, by rw [hr1, t1]⟩, hr2, hr3⟩
  · rw [ew, hk] at H hz
    rw [show (1 : Int).toNat = 1 from rfl, w1_signs a1 a2] at H hz
    have e : (Str.ofString "\"" :: (signs (numT v) ++ [Str.ofString "\""])) ++ rest = Str.ofString "\"" :: (signs (numT v) ++ Str.ofString "\"" :: rest) := by simp
    rw [e] at H hz
    refine (c_getq (ps := signs (numT v)) (rest := rest) H hP P (by rw [List.length_cons] at hz; (first | lia | omega)) hpl (by (first | lia | omega))).mono fun r n hr => ?_
    refine Small.go ?_
    intro gSm hSm
    obtain ⟨⟨t, hr1⟩, hr2, hr3⟩ := hr
    refine hSm ?_
    clear hSm gSm
    rw [if_neg (by (first | lia | omega)), Int.add_zero]
    exact ⟨⟨t, by rw [hr1, t3]⟩, hr2, hr3⟩
  · rw [ew, hk] at H hz
    rw [show (2 : Int).toNat = 2 from rfl, w2_signs a1 a2, List.append_assoc] at H hz
    first | (refine e0a4 (tag_cons (e := true) t4) ?_; intro c0 ps e hl) | (refine e1a3 (tag_cons (e := true) t4) ?_; intro c0 ps e hl) | (refine e2a2 (tag_cons (e := true) t4) ?_; intro c0 ps e hl) | (refine e3a1 (tag_cons (e := true) t4) ?_; intro c0 ps e hl) | obtain ⟨c0, ps, e, hl⟩ := tag_cons (e := true) t4
    rw [e] at H hz t2
    have hm : ∀ p ∈ (true, c0) :: ps, Plain p.2 := fun p hp => hpl _ (tag_mem (e ▸ hp))
    refine (c_get (term := Str.ofString "\n") (rest := rest) H hP P (by simpa using Nat.le_trans hz (by (first | lia | omega))) hm (by (first | lia | omega)) (by decide +kernel) (by decide)).mono fun r n hr => ?_
    refine Small.go ?_
    intro gSm hSm
    obtain ⟨⟨t, hr1⟩, hr2, hr3⟩ := hr
    refine hSm ?_
    clear hSm gSm
    rw [if_pos rfl] at hr2
    rw [if_pos hk]
    exact ⟨⟨t, by rw [hr1, t2]⟩, hr2, hr3⟩
end
end
section
section
set_option maxRecDepth 100000
theorem LexAt.off {w : World} {X : LexIds} {ln : Int} {sg : List Value} {news news' : Led} (H : LexAt w X ln sg news) (hoc : ∃ vs, X.oc.data = .fields vs) (hocl : X.ocl.data = .cell (some (.ref X.G))) (h : ∀ p ∈ news, p.2.data ≠ .cell none → p ∈ news') : LexAt w X ln sg news' where
  hx := h _ H.hx (by simp)
  hd := let ⟨t, ht⟩ := H.hd; ⟨t, h _ ht (by simp)⟩
  hxs := h _ H.hxs (by simp)
  hds := h _ H.hds (by simp)
  hf := h _ H.hf (by simp)
  hc := h _ H.hc (by obtain ⟨vs, e⟩ := hoc; rw [e]; simp)
  hcl := h _ H.hcl (by rw [hocl]; simp)
  hG := let ⟨n, hn⟩ := H.hG; ⟨n, h _ hn (by simp)⟩
theorem nums_ne {v : Int} (h1 : -20 ≤ v) (h2 : v ≤ 20) (m : Int) : signs (wordT v m) ≠ [] := by
  have : ∀ n : Fin 41, ∀ k : Fin 3, (signs (word3 ((n : Nat) - 20 : Int) k)).isEmpty = false := by decide +kernel
  have h3 := Int.fmod_nonneg_of_pos m (b := 3) (by (first | lia | omega))
  have h4 := Int.fmod_lt_of_pos m (b := 3) (by (first | lia | omega))
  have h := this ⟨(v + 20).toNat, by (first | lia | omega)⟩ ⟨(m.fmod 3).toNat, by (first | lia | omega)⟩
  have e : (((⟨(v + 20).toNat, by (first | lia | omega)⟩ : Fin 41) : Nat) - 20 : Int) = v := by dsimp only; (first | lia | omega)
  rw [wordT_mod]
  rw [e] at h
  intro h0
  dsimp only at h
  rw [h0] at h
  cases h
theorem text_ne (ns : List Int) : signs (catS ((cellsOf ns).map wOf)) ≠ [] := by
  have e : cellsOf ns = 25 :: ([66, 100, 20, 22, 141, 58] ++ (ns.take 12).map cellF) := rfl
  rw [e, List.map_cons, catS, signs_app]
  intro h
  have := (List.append_eq_nil_iff.mp h).1
  exact nums_ne (v := (25 : Int).fmod 41 - 20) (by decide) (by decide) _ this
/-- the lines that a word ends -/
def lnTo (l : List Int) : Int := (l.map nlOf).sum
/-- the signs that are left -/
def restS (l : List Int) : List Str := (l.map wOf).flatMap signs
theorem restS_cons (c : Int) (l : List Int) : restS (c :: l) = signs (wOf c) ++ restS l := by unfold restS; rw [List.map_cons, List.flatMap_cons]
theorem restS_text (ns : List Int) : signs (Txt.join (Str.ofString "") ((cellsOf ns).map wOf)) = restS (cellsOf ns) := by rw [join_nil, signs_cat]; rfl
theorem signs_len (x : Str) : (signs x).length = x.length := by unfold signs; simp [Str.length]
theorem restS_len {l : List Int} (h : ∀ c ∈ l, 0 ≤ c ∧ c < 1000000) : (restS l).length ≤ 12 * l.length := by
  induction l with
  | nil => simp [restS]
  | cons c r ih =>
    have := ih fun d hd => h d (.tail _ hd)
    have hc := cell_args (h c (.head _)).1 (h c (.head _)).2
    have e : (wOf c).length ≤ 12 := wordT_len hc.1 hc.2.1
    rw [restS_cons, List.length_append, signs_len, List.length_cons]
    (first | lia | omega)
theorem LexAt.kept {w : World} {X : LexIds} {ln ln' : Int} {sg sg' : List Value} {b nw nw' : Led} (H0 : LexAt w X ln sg b) (H : LexAt w X ln' sg' nw) (hk : ∀ p ∈ nw, Kept b p → p ∈ nw') : LexAt w X ln' sg' nw' where
  hx := hk _ H.hx (.inr ⟨_, H0.hx, rfl⟩)
  hd := let ⟨t, ht⟩ := H.hd; let ⟨_, h0⟩ := H0.hd; ⟨t, hk _ ht (.inr ⟨_, h0, rfl⟩)⟩
  hxs := hk _ H.hxs (.inr ⟨_, H0.hxs, rfl⟩)
  hds := hk _ H.hds (.inr ⟨_, H0.hds, rfl⟩)
  hf := hk _ H.hf (.inr ⟨_, H0.hf, rfl⟩)
  hc := hk _ H.hc (.inr ⟨_, H0.hc, rfl⟩)
  hcl := hk _ H.hcl (.inr ⟨_, H0.hcl, rfl⟩)
  hG := let ⟨n, hn⟩ := H.hG; let ⟨_, h0⟩ := H0.hG; ⟨n, hk _ hn (.inr ⟨_, h0, rfl⟩)⟩
theorem LexF.kept {w : World} {X : LexIds} {ln ln' : Int} {cs cs' : List Str} {b nw nw' : Led} (H0 : LexF w X ln cs b) (H : LexF w X ln' cs' nw) (hk : ∀ p ∈ nw, Kept b p → p ∈ nw') : LexF w X ln' cs' nw' :=
  let ⟨_, h0, _⟩ := H0; let ⟨sg, h1, h2⟩ := H; ⟨sg, h0.kept h1 hk, h2⟩
end
end
section
section
set_option maxRecDepth 100000
section
variable {prog : Program} {w : World} {A : Around} {E : Value → Shared → Prop} {s : Shared} {env : Env} {h₀ : Heap} {L : Addr} {m : Str → Option Value}
theorem post_AK {C D : Addr} {ys : List Value} {oC : Obj} {m₁ : Str → Option Value} {nw : Led} {K : Shared → Prop} {h : Heap} {tk : Nat} {y : Str} {py : Pos}
    (hL : env.locals = L) (hy : env.kindOf y = some .local) (hp : (env.scope.kind == .class || (env.scope.kind == .module && env.locals != env.globals)) = false)
    (F : Fr h₀ L h m) (N : News h₀ L h ((C, oC) :: (D, LCg.lst ys) :: nw)) (hns : LCg.NsObj oC m₁) (off : ∀ p ∈ nw, p.1 ≠ C ∧ p.1 ≠ D) (hCD : C ≠ D)
    (hQ : ∀ h', Fr h₀ L h' (fun z => if z = y then some (.ref D) else m z) → News h₀ L h' ((D, LCg.lst ys) :: nw) → K { s with heap := h', toks := tk + 1 }) :
    compPost (model prog w) A E (some (assign (.Name y py) env)) (fun _ s' => K s') (.ref D) C (.ok .next) { s with heap := h, toks := tk } :=
  post_A (Q := fun _ s' => K s') hL hy hp F N hns off hCD hQ
end
theorem lex_P {h₀ h : Heap} {L : Addr} {w : World} {X : LexIds} {ln : Int} {cs : List Str} {nw : Led} {nP : Nat} (N : News h₀ L h nw) (H : LexF w X ln cs nw) (hP : (X.P, W.listOf [].toArray nP) ∈ nw) (hne : cs ≠ []) : X.P ≠ X.G := by
  first | (refine e0a3 (H) ?_; intro sg H1 H2; (try clear H)) | (refine e1a2 (H) ?_; intro sg H1 H2; (try clear H)) | (refine e2a1 (H) ?_; intro sg H1 H2; (try clear H)) | obtain ⟨sg, H1, H2⟩ := H
  obtain ⟨n, hG⟩ := H1.hG
  refine apart2 N hP hG fun e => hne ?_
  have e1 := congrArg Obj.data e
  simp at e1
  have := H2.length
  rw [e1.1] at this
  simpa using this.symm
theorem lex_Pd {h₀ h : Heap} {L : Addr} {w : World} {X : LexIds} {ln : Int} {cs : List Str} {nw : Led} {vs : List Value} {nP : Nat} {P : Addr} (N : News h₀ L h nw) (H : LexF w X ln cs nw) (hP : (P, W.listOf vs.toArray nP) ∈ nw) : P ≠ X.d := by
  first | (refine e0a3 (H) ?_; intro sg H1 H2; (try clear H)) | (refine e1a2 (H) ?_; intro sg H1 H2; (try clear H)) | (refine e2a1 (H) ?_; intro sg H1 H2; (try clear H)) | obtain ⟨sg, H1, H2⟩ := H
  obtain ⟨t, hd⟩ := H1.hd
  exact apart N hP hd (by simp)
theorem lex_ints {h₀ h : Heap} {L : Addr} {w : World} {X : LexIds} {ln : Int} {cs : List Str} {nw : Led} {vs : List Value} {ns : List Int} {nP : Nat} {P : Addr} (N : News h₀ L h nw) (H : LexF w X ln cs nw) (hP : (P, W.listOf vs.toArray nP) ∈ nw) (hI : IntsAre vs ns) (hne : cs ≠ []) : P ≠ X.G := by
  first | (refine e0a3 (H) ?_; intro sg H1 H2; (try clear H)) | (refine e1a2 (H) ?_; intro sg H1 H2; (try clear H)) | (refine e2a1 (H) ?_; intro sg H1 H2; (try clear H)) | obtain ⟨sg, H1, H2⟩ := H
  obtain ⟨n, hG⟩ := H1.hG
  refine apart2 N hP hG fun e => hne ?_
  have e1 := congrArg Obj.data e
  simp at e1
  have e2 := e1.1
  subst e2
  cases hI with
  | nil => have := H2.length; simpa using this.symm
  | cons n t h => 
    generalize cs.reverse = z at H2
    cases H2
theorem lex_cell {h₀ h : Heap} {L : Addr} {w : World} {X : LexIds} {ln : Int} {cs : List Str} {nw : Led} {o : Obj} {v : Option Value} {c : Addr} (N : News h₀ L h nw) (H : LexF w X ln cs nw) (hc : (c, o) ∈ nw) (ho : o.data = .cell v) : c ≠ X.d ∧ c ≠ X.G := by
  first | (refine e0a3 (H) ?_; intro sg H1 H2; (try clear H)) | (refine e1a2 (H) ?_; intro sg H1 H2; (try clear H)) | (refine e2a1 (H) ?_; intro sg H1 H2; (try clear H)) | obtain ⟨sg, H1, H2⟩ := H
  obtain ⟨n, hG⟩ := H1.hG
  obtain ⟨t, hd⟩ := H1.hd
  constructor
  · refine apart2 N hc hd fun e => ?_
    rw [e] at ho; simp at ho
  · refine apart2 N hc hG fun e => ?_
    rw [e] at ho; simp at ho
theorem restS_ne (ns : List Int) : restS (cellsOf ns) ≠ [] := by
  rw [← restS_text, join_nil]; exact text_ne ns
theorem lex_its {h₀ h : Heap} {L : Addr} {w : World} {X : LexIds} {ln : Int} {cs : List Str} {nw : Led} {vs : List Value} {xs : List (Int × Int)} {nP : Nat} {P : Addr} (N : News h₀ L h nw) (H : LexF w X ln cs nw) (hP : (P, W.listOf vs.toArray nP) ∈ nw) (hI : Its nw vs xs) (hne : cs ≠ []) : P ≠ X.G := by
  first | (refine e0a3 (H) ?_; intro sg H1 H2; (try clear H)) | (refine e1a2 (H) ?_; intro sg H1 H2; (try clear H)) | (refine e2a1 (H) ?_; intro sg H1 H2; (try clear H)) | obtain ⟨sg, H1, H2⟩ := H
  obtain ⟨n, hG⟩ := H1.hG
  refine apart2 N hP hG fun e => hne ?_
  have e1 := congrArg Obj.data e
  simp at e1
  have e2 := e1.1
  subst e2
  cases hI with
  | nil => have := H2.length; simpa using this.symm
  | cons n t =>
    generalize cs.reverse = z at H2
    cases H2
theorem strs_dat {news : Led} {vs : List Value} {xs : List Str} (h : StrsAre vs xs) : DatAll news vs (xs.map W.Dat.str) := by
  induction h with
  | nil => exact .nil
  | cons y t _ ih => exact .cons (.str y t) ih
theorem ne_strs {prog : Program} {w : World} {A : Around} {E : Value → Shared → Prop} {s : Shared} {h₀ : Heap} {L : Addr} {news : Led} {a b : Addr} {vs ws : List Value} {na nb : Nat} {xs : List Str} {Q : Value → Shared → Prop} (N : News h₀ L s.heap news) (ha : (a, W.listOf vs.toArray na) ∈ news) (hb : (b, W.listOf ws.toArray nb) ∈ news) (hI : StrsAre vs xs) (hK : StrsAre ws xs) (hok : ∀ x ∈ xs, PyData.strOk x = true) (hu : A.units + 64 < cLine)
    (h : Q (.bool false) s) : wpAny (model prog w) A (compareOp .NotEq (.ref a) (.ref b)) Q E s := by
  have ok : ∀ d ∈ xs.map W.Dat.str, kqdOk 8 d = true := fun d hd => by
    first | (refine e0a3 (List.mem_map.mp hd) ?_; intro y hy er2; subst er2) | (refine e1a2 (List.mem_map.mp hd) ?_; intro y hy er2; subst er2) | (refine e2a1 (List.mem_map.mp hd) ?_; intro y hy er2; subst er2) | obtain ⟨y, hy, rfl⟩ := List.mem_map.mp hd
    exact hok y hy
  refine kqd_ne (n₁ := news) (n₂ := news) N ha rfl rfl (strs_dat hI) (fun _ hp => hp) hb rfl rfl (strs_dat hK) (fun _ hp => hp) ok ok hu ?_
  simpa using h
def nums (ns : List Int) : List Str := (cellsOf ns).map fun c => numT (c.fmod 41 - 20)
theorem nums_ok (ns : List Int) : ∀ x ∈ nums ns, PyData.strOk x = true := by
  intro x hx
  first | (refine e0a3 (List.mem_map.mp hx) ?_; intro c hc er2; subst er2) | (refine e1a2 (List.mem_map.mp hx) ?_; intro c hc er2; subst er2) | (refine e2a1 (List.mem_map.mp hx) ?_; intro c hc er2; subst er2) | obtain ⟨c, hc, rfl⟩ := List.mem_map.mp hx
  have hb := cells_bnd c hc
  first | (refine e0a4 (cell_args hb.1 hb.2) ?_; intro a1 a2 _ _) | (refine e1a3 (cell_args hb.1 hb.2) ?_; intro a1 a2 _ _) | (refine e2a2 (cell_args hb.1 hb.2) ?_; intro a1 a2 _ _) | (refine e3a1 (cell_args hb.1 hb.2) ?_; intro a1 a2 _ _) | obtain ⟨a1, a2, _, _⟩ := cell_args hb.1 hb.2
  have e : ∀ v : Int, -20 ≤ v → v ≤ 20 → PyData.strOk (numT v) = true := fun v h1 h2 => by41 (P := fun v => PyData.strOk (numT v) = true) (by decide +kernel) h1 h2
  exact e _ a1 a2
theorem nums_items (ns : List Int) : (itemsFrom 0 (cellsOf ns)).map (fun x => numT x.1) = nums ns := by
  unfold nums
  generalize cellsOf ns = l
  have : ∀ k, (itemsFrom k l).map (fun x => numT x.1) = l.map fun c => numT (c.fmod 41 - 20) := by
    induction l with
    | nil => intro k; rfl
    | cons c r ih => intro k; rw [itemsFrom, List.map_cons, ih]; rfl
  exact this 0
/-- the items, by their number and their place -/
theorem items_bnd {ns : List Int} : ∀ x ∈ itemsFrom 0 (cellsOf ns), -20 ≤ x.1 ∧ x.1 ≤ 20 := by
  intro x hx
  obtain ⟨i, hi⟩ := List.mem_iff_getElem?.mp hx
  have hl := (List.getElem?_eq_some_iff.mp hi).1
  rw [itemsFrom_length] at hl
  rw [itemsFrom_get 0 _ _ hl] at hi
  cases hi
  have hb := cells_bnd _ (List.getElem_mem hl)
  first | (refine e0a4 (cell_args hb.1 hb.2) ?_; intro a1 a2 _ _) | (refine e1a3 (cell_args hb.1 hb.2) ?_; intro a1 a2 _ _) | (refine e2a2 (cell_args hb.1 hb.2) ?_; intro a1 a2 _ _) | (refine e3a1 (cell_args hb.1 hb.2) ?_; intro a1 a2 _ _) | obtain ⟨a1, a2, _, _⟩ := cell_args hb.1 hb.2
  exact ⟨a1, a2⟩
theorem Its.inv {news : Led} {vs : List Value} {xs : List (Int × Int)} (h : Its news vs xs) : ∀ (i : Nat) (v : Value), vs[i]? = some v → ∃ hi : i < xs.length, ∃ t k u, v = .ref t ∧ (t, pairO xs[i].1 xs[i].2 k u) ∈ news := by
  intro i v hv
  have hl := (List.getElem?_eq_some_iff.mp hv).1
  rw [h.length] at hl
  first | (refine e0a5 (h.get i _ (List.getElem?_eq_getElem hl)) ?_; intro t k u e hm) | (refine e1a4 (h.get i _ (List.getElem?_eq_getElem hl)) ?_; intro t k u e hm) | (refine e2a3 (h.get i _ (List.getElem?_eq_getElem hl)) ?_; intro t k u e hm) | (refine e3a2 (h.get i _ (List.getElem?_eq_getElem hl)) ?_; intro t k u e hm) | (refine e4a1 (h.get i _ (List.getElem?_eq_getElem hl)) ?_; intro t k u e hm) | obtain ⟨t, k, u, e, hm⟩ := h.get i _ (List.getElem?_eq_getElem hl)
  rw [e] at hv
  cases hv
  exact ⟨hl, t, k, u, rfl, hm⟩
end
end
section
section
set_option maxRecDepth 100000
theorem above_eq (r : List (Int × Int)) (y : Int × Int) : above r y = ((r.countP fun z => decide (y.1 < z.1) : Nat) : Int) := by
  unfold above cnt
  have h := List.length_eq_countP_add_countP (fun z : Int × Int => decide (z.1 ≤ y.1)) (l := r)
  have e : r.countP (fun z => !decide (z.1 ≤ y.1)) = r.countP fun z => decide (y.1 < z.1) := by
    congr 1
    funext z
    by_cases hz : z.1 ≤ y.1
    · have : ¬ y.1 < z.1 := by (first | lia | omega)
      simp [hz, this]
    · have : y.1 < z.1 := by (first | lia | omega)
      simp [hz, this]
  have e2 : r.countP (fun z => decide (¬ decide (z.1 ≤ y.1) = true)) = r.countP fun z => decide (y.1 < z.1) := by
    rw [← e]
    congr 1
    funext z
    by_cases hz : z.1 ≤ y.1 <;> simp [hz]
  (first | lia | omega)
theorem above_nil (y : Int × Int) : above [] y = 0 := rfl
theorem above_append (a b : List (Int × Int)) (y : Int × Int) : above (a ++ b) y = above a y + above b y := by
  rw [above_eq, above_eq, above_eq, List.countP_append]; (first | lia | omega)
theorem above_perm {a b : List (Int × Int)} (h : a.Perm b) : above a = above b := by
  funext y
  rw [above_eq, above_eq, h.countP_eq]
theorem sum_append (a b : List Int) : (a ++ b).sum = a.sum + b.sum := by
  induction a with
  | nil => simp
  | cons x a ih => rw [List.cons_append, List.sum_cons, List.sum_cons, ih]; (first | lia | omega)
theorem sum_perm {a b : List Int} (h : a.Perm b) : a.sum = b.sum := by
  induction h with
  | nil => rfl
  | cons x _ ih => rw [List.sum_cons, List.sum_cons, ih]
  | swap x y l => simp only [List.sum_cons]; (first | lia | omega)
  | trans _ _ h1 h2 => exact h1.trans h2
/-- how many a row's things are below things of an older one -/
def crs (o r : List (Int × Int)) : Int := (r.map (above o)).sum
theorem crs_perm {a b c d : List (Int × Int)} (h : a.Perm b) (g : c.Perm d) : crs a c = crs b d := by
  unfold crs
  rw [above_perm h, sum_perm (g.map _)]
theorem crs_append (a b r : List (Int × Int)) : crs (a ++ b) r = crs a r + crs b r := by
  unfold crs
  induction r with
  | nil => simp
  | cons y r ih => simp only [List.map_cons, List.sum_cons, above_append] at *; (first | lia | omega)
theorem crs_nil (r : List (Int × Int)) : crs [] r = 0 := by
  unfold crs
  induction r with
  | nil => rfl
  | cons y r ih => rw [List.map_cons, List.sum_cons, ih, above_nil]; rfl
def invF (p : List (Int × Int)) : List (Int × Int) → Int
  | [] => 0
  | y :: r => above p y + invF (p ++ [y]) r
def inv (xs : List (Int × Int)) : Int := invF [] xs
theorem invF_append : ∀ (p xs ys : List (Int × Int)), invF p (xs ++ ys) = invF p xs + invF (p ++ xs) ys
  | p, [], ys => by simp [invF]
  | p, x :: xs, ys => by
    rw [List.cons_append, invF, invF, invF_append (p ++ [x]) xs ys, List.append_assoc]
    simp only [List.singleton_append]
    (first | lia | omega)
theorem invF_split : ∀ (p q ys : List (Int × Int)), invF (p ++ q) ys = crs p ys + invF q ys
  | p, q, [] => by simp [invF, crs]
  | p, q, y :: r => by
    rw [invF, invF, List.append_assoc, invF_split p (q ++ [y]) r, above_append]
    unfold crs
    rw [List.map_cons, List.sum_cons]
    (first | lia | omega)
theorem inv_append (xs ys : List (Int × Int)) : inv (xs ++ ys) = inv xs + crs xs ys + inv ys := by
  unfold inv
  rw [invF_append]
  have := invF_split xs [] ys
  rw [List.append_nil] at this
  rw [List.nil_append, this]
  (first | lia | omega)
theorem inv_snoc (xs : List (Int × Int)) (y : Int × Int) : inv (xs ++ [y]) = inv xs + above xs y := by
  rw [inv_append]
  have e1 : inv [y] = 0 := rfl
  have e2 : crs xs [y] = above xs y := by unfold crs; simp
  (first | lia | omega)
theorem inv_one (y : Int × Int) : inv [y] = 0 := rfl
/-- the rows, one after the other, from the oldest on -/
def flat : List (List (Int × Int)) → List (Int × Int)
  | [] => []
  | b :: bs => flat bs ++ b
theorem flat_append (a b : List (List (Int × Int))) : flat (a ++ b) = flat b ++ flat a := by
  induction a with
  | nil => simp [flat]
  | cons x a ih => rw [List.cons_append, flat, flat, ih, List.append_assoc]
theorem flat_length (bs : List (List (Int × Int))) : (flat bs).length = (bs.map (·.length)).sum := by
  induction bs with
  | nil => rfl
  | cons b bs ih => rw [flat, List.length_append, ih, List.map_cons, List.sum_cons]; (first | lia | omega)
abbrev Lex (r : List (Int × Int)) : Prop := r.Pairwise (fun y z => lexK y < lexK z)
inductive Rel : List (List (Int × Int)) → List (List (Int × Int)) → Prop
  | nil : Rel [] []
  | cons {r b : List (Int × Int)} {rs bs : List (List (Int × Int))} : r.Perm b → Lex r → Rel rs bs → Rel (r :: rs) (b :: bs)
theorem Rel.snoc {rs bs : List (List (Int × Int))} {r b : List (Int × Int)} (h : Rel rs bs) (hp : r.Perm b) (hl : Lex r) : Rel (rs ++ [r]) (bs ++ [b]) := by
  induction h with
  | nil => exact .cons hp hl .nil
  | cons a c _ ih => exact .cons a c ih
theorem Rel.len {rs bs : List (List (Int × Int))} (h : Rel rs bs) : rs.map (·.length) = bs.map (·.length) := by
  induction h with
  | nil => rfl
  | cons a c _ ih => rw [List.map_cons, List.map_cons, ih, a.length_eq]
theorem Rel.length {rs bs : List (List (Int × Int))} (h : Rel rs bs) : rs.length = bs.length := by
  induction h with
  | nil => rfl
  | cons a c _ ih => rw [List.length_cons, List.length_cons, ih]
theorem Rel.get {rs bs : List (List (Int × Int))} (h : Rel rs bs) : ∀ (j : Nat), (rs.getD j []).Perm (bs.getD j []) ∧ Lex (rs.getD j []) := by
  induction h with
  | nil => intro j; simp
  | cons a c _ ih =>
    intro j
    cases j with
    | zero => exact ⟨a, c⟩
    | succ j => exact ih j
abbrev Near (x : Int × Int) : Prop := 0 ≤ x.2 ∧ x.2 < 1000
theorem lex_le {y z : Int × Int} (hy : Near y) (hz : Near z) (h : lexK y < lexK z) : y.1 ≤ z.1 := by
  unfold lexK at h; (first | lia | omega)
theorem lex_of_lt {y z : Int × Int} (hy : Near y) (hz : Near z) (h : y.1 < z.1) : lexK y < lexK z := by
  unfold lexK; (first | lia | omega)
theorem lex_of_le {y z : Int × Int} (h : y.1 ≤ z.1) (h2 : y.2 < z.2) : lexK y < lexK z := by
  unfold lexK; (first | lia | omega)
theorem lex_sorted : ∀ {r : List (Int × Int)}, Lex r → (∀ y ∈ r, Near y) → Sorted r
  | [], _, _ => sorted_nil
  | a :: r, h, hn => by
    have h1 := List.pairwise_cons.mp h
    exact sorted_cons (lex_sorted h1.2 fun y hy => hn y (.tail _ hy)) fun y hy => lex_le (hn a (.head _)) (hn y (.tail _ hy)) (h1.1 y hy)
theorem ins_perm (r : List (Int × Int)) (y : Int × Int) : (ins r y).Perm (y :: r) := by
  unfold ins
  refine List.perm_middle.trans ?_
  rw [List.take_append_drop]
theorem insAll_perm : ∀ (row r : List (Int × Int)), (insAll r row).Perm (r ++ row)
  | [], r => by simp [insAll]
  | y :: row, r => by
    show (insAll (ins r y) row).Perm _
    refine (insAll_perm row (ins r y)).trans ?_
    refine ((ins_perm r y).append_right row).trans ?_
    exact List.perm_middle.symm
theorem ins_lex {y : Int × Int} (hy : Near y) : ∀ {r : List (Int × Int)}, Lex r → (∀ a ∈ r, Near a) → (∀ a ∈ r, a.1 ≤ y.1 → lexK a < lexK y) → Lex (ins r y)
  | [], _, _, _ => by rw [ins_nil]; exact List.pairwise_singleton ..
  | a :: r, h, hn, hb => by
    have h1 := List.pairwise_cons.mp h
    rw [ins_cons (lex_sorted h hn)]
    split
    · rename_i hle
      refine List.pairwise_cons.mpr ⟨fun z hz => ?_, ins_lex hy h1.2 (fun z hz => hn z (.tail _ hz)) fun z hz => hb z (.tail _ hz)⟩
      rcases mem_ins hz with rfl | hz
      · exact hb a (.head _) hle
      · exact h1.1 z hz
    · rename_i hlt
      have h2 := lex_of_lt hy (hn a (.head _)) (by (first | lia | omega))
      refine List.pairwise_cons.mpr ⟨fun z hz => ?_, h⟩
      rcases List.mem_cons.mp hz with rfl | hz
      · exact h2
      · exact Int.lt_trans h2 (h1.1 z hz)
theorem insAll_lex : ∀ {row r : List (Int × Int)}, Lex r → Lex row → (∀ a ∈ r, Near a) → (∀ a ∈ row, Near a) → (∀ a ∈ r, ∀ z ∈ row, a.1 ≤ z.1 → lexK a < lexK z) → Lex (insAll r row)
  | [], _, h, _, _, _, _ => h
  | y :: row, r, h, hr, hn, hm, hb => by
    have h1 := List.pairwise_cons.mp hr
    show Lex (insAll (ins r y) row)
    refine insAll_lex (ins_lex (hm y (.head _)) h hn fun a ha => hb a ha y (.head _)) h1.2 (fun a ha => ?_) (fun a ha => hm a (.tail _ ha)) fun a ha z hz => ?_
    · rcases mem_ins ha with rfl | ha
      · exact hm _ (.head _)
      · exact hn a ha
    · rcases mem_ins ha with rfl | ha
      · exact fun _ => h1.1 z hz
      · exact hb a ha z (.tail _ hz)
def invs (bs : List (List (Int × Int))) : Int := (bs.map inv).sum
theorem invs_snoc (bs : List (List (Int × Int))) (b : List (Int × Int)) : invs (bs ++ [b]) = invs bs + inv b := by
  unfold invs; rw [List.map_append, sum_append]; simp
theorem invs_cons (bs : List (List (Int × Int))) (b : List (Int × Int)) : invs (b :: bs) = inv b + invs bs := rfl
/-- the sizes show that rows join only ahead of all that stay apart -/
def chk : Nat → Bool → List Nat → Bool
  | _, _, [] => true
  | n, e, r :: s => if r = n then e && chk (r + n) true s else chk n false s
theorem fold_blocks (x : Int × Int) {rs bs : List (List (Int × Int))} (H : Rel rs bs) : ∀ (st : SSt) (blk : List (Int × Int)) (lb : List (List (Int × Int))), st.row.Perm blk → Lex st.row → Rel st.left lb → chk st.row.length st.left.isEmpty (rs.map (·.length)) = true →
    (flat bs ++ (flat lb ++ blk)).Pairwise (fun y z => y.2 < z.2) → (∀ y ∈ flat bs ++ (flat lb ++ blk), Near y) →
    ∃ blk' lb', (rs.foldl (sStep x) st).row.Perm blk' ∧ Lex (rs.foldl (sStep x) st).row ∧ Rel (rs.foldl (sStep x) st).left lb' ∧ flat lb' ++ blk' = flat bs ++ (flat lb ++ blk) ∧ (rs.foldl (sStep x) st).late + inv blk + invs lb + invs bs = st.late + inv blk' + invs lb' := by
  induction H with
  | nil => exact fun st blk lb h1 h2 h3 _ _ _ => ⟨blk, lb, h1, h2, h3, rfl, by simp [invs]⟩
  | @cons r b rs bs hp hl H ih =>
    intro st blk lb h1 h2 h3 hc hpl hnr
    rw [List.foldl_cons]
    rw [List.map_cons, chk] at hc
    rw [flat, List.append_assoc] at hpl hnr ⊢
    by_cases he : r.length = st.row.length
    · rw [if_pos he] at hc
      rw [Bool.and_eq_true] at hc
      obtain ⟨hce, hc⟩ := hc
      have hle : st.left = [] := by simpa using hce
      rw [hle] at h3
      cases h3
      simp only [flat, List.nil_append] at hpl hnr ⊢
      have e1 : sStep x st r = { row := insAll r st.row, left := st.left, early := st.early + above r x, late := st.late + (st.row.map (above r)).sum } := by unfold sStep; rw [if_pos he]
      have hq := (List.pairwise_append.mp hpl).2.1
      have hbb := (List.pairwise_append.mp hq).2.2
      have hnb : ∀ y ∈ b ++ blk, Near y := fun y hy => hnr y (List.mem_append_right _ hy)
      have hn1 : ∀ y ∈ r, Near y := fun y hy => hnb y (List.mem_append_left _ (hp.mem_iff.mp hy))
      have hn2 : ∀ y ∈ st.row, Near y := fun y hy => hnb y (List.mem_append_right _ (h1.mem_iff.mp hy))
      have hlx : Lex (insAll r st.row) := insAll_lex hl h2 hn1 hn2 fun a ha z hz hle => lex_of_le hle (hbb a (hp.mem_iff.mp ha) z (h1.mem_iff.mp hz))
      have hpp : (insAll r st.row).Perm (b ++ blk) := (insAll_perm st.row r).trans (hp.append h1)
      rw [e1]
      first | (refine e0a7 (ih { row := insAll r st.row, left := st.left, early := st.early + above r x, late := st.late + (st.row.map (above r)).sum } (b ++ blk) [] hpp hlx (by rw [hle]; exact .nil) (by dsimp only; rw [insAll_length, hle]; exact hc) (by simpa [flat] using hpl) (by simpa [flat] using hnr)) ?_; intro blk' lb' a1 a2 a3 a4 a5) | (refine e1a6 (ih { row := insAll r st.row, left := st.left, early := st.early + above r x, late := st.late + (st.row.map (above r)).sum } (b ++ blk) [] hpp hlx (by rw [hle]; exact .nil) (by dsimp only; rw [insAll_length, hle]; exact hc) (by simpa [flat] using hpl) (by simpa [flat] using hnr)) ?_; intro blk' lb' a1 a2 a3 a4 a5) | (refine e2a5 (ih { row := insAll r st.row, left := st.left, early := st.early + above r x, late := st.late + (st.row.map (above r)).sum } (b ++ blk) [] hpp hlx (by rw [hle]; exact .nil) (by dsimp only; rw [insAll_length, hle]; exact hc) (by simpa [flat] using hpl) (by simpa [flat] using hnr)) ?_; intro blk' lb' a1 a2 a3 a4 a5) | (refine e3a4 (ih { row := insAll r st.row, left := st.left, early := st.early + above r x, late := st.late + (st.row.map (above r)).sum } (b ++ blk) [] hpp hlx (by rw [hle]; exact .nil) (by dsimp only; rw [insAll_length, hle]; exact hc) (by simpa [flat] using hpl) (by simpa [flat] using hnr)) ?_; intro blk' lb' a1 a2 a3 a4 a5) | (refine e4a3 (ih { row := insAll r st.row, left := st.left, early := st.early + above r x, late := st.late + (st.row.map (above r)).sum } (b ++ blk) [] hpp hlx (by rw [hle]; exact .nil) (by dsimp only; rw [insAll_length, hle]; exact hc) (by simpa [flat] using hpl) (by simpa [flat] using hnr)) ?_; intro blk' lb' a1 a2 a3 a4 a5) | (refine e5a2 (ih { row := insAll r st.row, left := st.left, early := st.early + above r x, late := st.late + (st.row.map (above r)).sum } (b ++ blk) [] hpp hlx (by rw [hle]; exact .nil) (by dsimp only; rw [insAll_length, hle]; exact hc) (by simpa [flat] using hpl) (by simpa [flat] using hnr)) ?_; intro blk' lb' a1 a2 a3 a4 a5) | obtain ⟨blk', lb', a1, a2, a3, a4, a5⟩ := ih { row := insAll r st.row, left := st.left, early := st.early + above r x, late := st.late + (st.row.map (above r)).sum } (b ++ blk) [] hpp hlx (by rw [hle]; exact .nil) (by dsimp only; rw [insAll_length, hle]; exact hc) (by simpa [flat] using hpl) (by simpa [flat] using hnr)
      refine ⟨blk', lb', a1, a2, a3, by simpa [flat] using a4, ?_⟩
      have e2 := inv_append b blk
      have e3 : (st.row.map (above r)).sum = crs b blk := crs_perm hp h1
      rw [invs_cons]
      have e4 : invs ([] : List (List (Int × Int))) = 0 := rfl
      rw [e4] at a5 ⊢
      dsimp only at a5
      (first | lia | omega)
    · rw [if_neg he] at hc
      have e1 : sStep x st r = { st with left := st.left ++ [r], early := st.early + above r x } := by unfold sStep; rw [if_neg he]
      rw [e1]
      have e0 : (st.left ++ [r]).isEmpty = false := by cases st.left <;> rfl
      have ef : flat (lb ++ [b]) = b ++ flat lb := by rw [flat_append]; simp [flat]
      first | (refine e0a7 (ih { st with left := st.left ++ [r], early := st.early + above r x } blk (lb ++ [b]) h1 h2 (h3.snoc hp hl) (by rw [e0]; exact hc) (by rw [ef, List.append_assoc]; exact hpl) (by rw [ef, List.append_assoc]; exact hnr)) ?_; intro blk' lb' a1 a2 a3 a4 a5) | (refine e1a6 (ih { st with left := st.left ++ [r], early := st.early + above r x } blk (lb ++ [b]) h1 h2 (h3.snoc hp hl) (by rw [e0]; exact hc) (by rw [ef, List.append_assoc]; exact hpl) (by rw [ef, List.append_assoc]; exact hnr)) ?_; intro blk' lb' a1 a2 a3 a4 a5) | (refine e2a5 (ih { st with left := st.left ++ [r], early := st.early + above r x } blk (lb ++ [b]) h1 h2 (h3.snoc hp hl) (by rw [e0]; exact hc) (by rw [ef, List.append_assoc]; exact hpl) (by rw [ef, List.append_assoc]; exact hnr)) ?_; intro blk' lb' a1 a2 a3 a4 a5) | (refine e3a4 (ih { st with left := st.left ++ [r], early := st.early + above r x } blk (lb ++ [b]) h1 h2 (h3.snoc hp hl) (by rw [e0]; exact hc) (by rw [ef, List.append_assoc]; exact hpl) (by rw [ef, List.append_assoc]; exact hnr)) ?_; intro blk' lb' a1 a2 a3 a4 a5) | (refine e4a3 (ih { st with left := st.left ++ [r], early := st.early + above r x } blk (lb ++ [b]) h1 h2 (h3.snoc hp hl) (by rw [e0]; exact hc) (by rw [ef, List.append_assoc]; exact hpl) (by rw [ef, List.append_assoc]; exact hnr)) ?_; intro blk' lb' a1 a2 a3 a4 a5) | (refine e5a2 (ih { st with left := st.left ++ [r], early := st.early + above r x } blk (lb ++ [b]) h1 h2 (h3.snoc hp hl) (by rw [e0]; exact hc) (by rw [ef, List.append_assoc]; exact hpl) (by rw [ef, List.append_assoc]; exact hnr)) ?_; intro blk' lb' a1 a2 a3 a4 a5) | obtain ⟨blk', lb', a1, a2, a3, a4, a5⟩ := ih { st with left := st.left ++ [r], early := st.early + above r x } blk (lb ++ [b]) h1 h2 (h3.snoc hp hl) (by rw [e0]; exact hc) (by rw [ef, List.append_assoc]; exact hpl) (by rw [ef, List.append_assoc]; exact hnr)
      refine ⟨blk', lb', a1, a2, a3, by rw [a4, ef, List.append_assoc], ?_⟩
      rw [invs_snoc] at a5
      rw [invs_cons]
      dsimp only at a5
      (first | lia | omega)
end
end
section
section
set_option maxRecDepth 100000
/-- what the main loop holds -/
structure Sto where
  rows : List (List (Int × Int))
  early : Int
  late : Int
def stepS (S : Sto) (x : Int × Int) : Sto := { rows := (sAll x S.rows).row :: (sAll x S.rows).left, early := S.early + (sAll x S.rows).early, late := S.late + (sAll x S.rows).late }
def runS (xs : List (Int × Int)) : Sto := xs.foldl stepS { rows := [], early := 0, late := 0 }
theorem runS_snoc (xs : List (Int × Int)) (x : Int × Int) : runS (xs ++ [x]) = stepS (runS xs) x := by unfold runS; rw [List.foldl_append]; rfl
/-- the sizes, by themselves -/
def szF (p : Nat × List Nat) (r : Nat) : Nat × List Nat := if r = p.1 then (r + p.1, p.2) else (p.1, p.2 ++ [r])
def szStep (s : List Nat) : List Nat := (s.foldl szF (1, [])).1 :: (s.foldl szF (1, [])).2
def szN : Nat → List Nat
  | 0 => []
  | k + 1 => szStep (szN k)
theorem sFold_sizes (x : Int × Int) : ∀ (rs : List (List (Int × Int))) (st : SSt), ((rs.foldl (sStep x) st).row.length, (rs.foldl (sStep x) st).left.map (·.length)) = (rs.map (·.length)).foldl szF (st.row.length, st.left.map (·.length))
  | [], _ => rfl
  | r :: rs, st => by
    rw [List.foldl_cons, sFold_sizes x rs, List.map_cons, List.foldl_cons]
    congr 1
    unfold szF sStep
    dsimp only
    split
    · rename_i h
      dsimp only
      rw [insAll_length]
    · rw [List.map_append]; rfl
theorem sAll_sizes (x : Int × Int) (rs : List (List (Int × Int))) : ((sAll x rs).row :: (sAll x rs).left).map (·.length) = szStep (rs.map (·.length)) := by
  have h := sFold_sizes x rs { row := [x], left := [], early := 0, late := 0 }
  unfold szStep sAll
  rw [List.map_cons]
  have h1 := congrArg Prod.fst h
  have h2 := congrArg Prod.snd h
  dsimp only at h1 h2
  rw [h1, h2]
  rfl
theorem run_sizes (xs : List (Int × Int)) : ∀ k, k ≤ xs.length → (runS (xs.take k)).rows.map (·.length) = szN k
  | 0, _ => by simp [runS, szN]
  | k + 1, h => by
    rw [List.take_add_one, List.getElem?_eq_getElem (by (first | lia | omega))]
    show (runS (xs.take k ++ [xs[k]])).rows.map (·.length) = _
    rw [runS_snoc]
    show ((sAll _ _).row :: (sAll _ _).left).map (·.length) = _
    rw [sAll_sizes, run_sizes xs k (by (first | lia | omega))]
    rfl
theorem sz_chk : ∀ k, k < 20 → chk 1 true (szN k) = true := by decide +kernel
theorem sz_sum : ∀ k, k < 20 → (szN k).sum = k ∧ (szN k).length ≤ 5 ∧ (szN k).all (fun n => decide (1 ≤ n)) = true := by decide +kernel
theorem sz_names : ∀ k, k < 20 → 1 ≤ k → Txt.join (Str.ofString ", ") ((szN k).map PF) = PF k := by decide +kernel
theorem sAll_early (x : Int × Int) : ∀ (rs : List (List (Int × Int))) (st : SSt), (rs.foldl (sStep x) st).early = st.early + (rs.map fun r => above r x).sum
  | [], st => by simp
  | r :: rs, st => by
    rw [List.foldl_cons, sAll_early x rs, List.map_cons, List.sum_cons]
    have : (sStep x st r).early = st.early + above r x := by unfold sStep; split <;> rfl
    (first | lia | omega)
theorem above_flat {rs bs : List (List (Int × Int))} (h : Rel rs bs) (x : Int × Int) : (rs.map fun r => above r x).sum = above (flat bs) x := by
  induction h with
  | nil => rfl
  | cons a _ _ ih =>
    rw [List.map_cons, List.sum_cons, ih, flat, above_append, above_perm a]
    (first | lia | omega)
theorem run_inv {xs : List (Int × Int)} (hl : xs.length ≤ 19) (hp : xs.Pairwise (fun y z => y.2 < z.2)) (hn : ∀ y ∈ xs, Near y) : ∀ k, k ≤ xs.length →
    ∃ bs, Rel (runS (xs.take k)).rows bs ∧ flat bs = xs.take k ∧ (runS (xs.take k)).late = invs bs ∧ (runS (xs.take k)).early = inv (xs.take k)
  | 0, _ => ⟨[], .nil, rfl, rfl, rfl⟩
  | k + 1, h => by
    first | (refine e0a5 (run_inv hl hp hn k (by (first | lia | omega))) ?_; intro bs h1 h2 h3 h4) | (refine e1a4 (run_inv hl hp hn k (by (first | lia | omega))) ?_; intro bs h1 h2 h3 h4) | (refine e2a3 (run_inv hl hp hn k (by (first | lia | omega))) ?_; intro bs h1 h2 h3 h4) | (refine e3a2 (run_inv hl hp hn k (by (first | lia | omega))) ?_; intro bs h1 h2 h3 h4) | (refine e4a1 (run_inv hl hp hn k (by (first | lia | omega))) ?_; intro bs h1 h2 h3 h4) | obtain ⟨bs, h1, h2, h3, h4⟩ := run_inv hl hp hn k (by (first | lia | omega))
    have hs := run_sizes xs k (by (first | lia | omega))
    have e : xs.take (k + 1) = xs.take k ++ [xs[k]] := by rw [List.take_add_one, List.getElem?_eq_getElem (by (first | lia | omega))]; rfl
    have hc := sz_chk k (by (first | lia | omega))
    rw [← hs] at hc
    have hpk : (flat bs ++ (flat [] ++ [xs[k]])).Pairwise (fun y z => y.2 < z.2) := by
      rw [h2]
      simp only [flat, List.nil_append]
      rw [← e]
      exact hp.sublist (List.take_sublist _ _)
    have hnk : ∀ y ∈ flat bs ++ (flat [] ++ [xs[k]]), Near y := by
      rw [h2]
      simp only [flat, List.nil_append]
      rw [← e]
      exact fun y hy => hn y (List.mem_of_mem_take hy)
    first | (refine e0a7 (fold_blocks xs[k] h1 { row := [xs[k]], left := [], early := 0, late := 0 } [xs[k]] [] (.refl _) (List.pairwise_singleton ..) .nil hc hpk hnk) ?_; intro blk' lb' a1 a2 a3 a4 a5) | (refine e1a6 (fold_blocks xs[k] h1 { row := [xs[k]], left := [], early := 0, late := 0 } [xs[k]] [] (.refl _) (List.pairwise_singleton ..) .nil hc hpk hnk) ?_; intro blk' lb' a1 a2 a3 a4 a5) | (refine e2a5 (fold_blocks xs[k] h1 { row := [xs[k]], left := [], early := 0, late := 0 } [xs[k]] [] (.refl _) (List.pairwise_singleton ..) .nil hc hpk hnk) ?_; intro blk' lb' a1 a2 a3 a4 a5) | (refine e3a4 (fold_blocks xs[k] h1 { row := [xs[k]], left := [], early := 0, late := 0 } [xs[k]] [] (.refl _) (List.pairwise_singleton ..) .nil hc hpk hnk) ?_; intro blk' lb' a1 a2 a3 a4 a5) | (refine e4a3 (fold_blocks xs[k] h1 { row := [xs[k]], left := [], early := 0, late := 0 } [xs[k]] [] (.refl _) (List.pairwise_singleton ..) .nil hc hpk hnk) ?_; intro blk' lb' a1 a2 a3 a4 a5) | (refine e5a2 (fold_blocks xs[k] h1 { row := [xs[k]], left := [], early := 0, late := 0 } [xs[k]] [] (.refl _) (List.pairwise_singleton ..) .nil hc hpk hnk) ?_; intro blk' lb' a1 a2 a3 a4 a5) | obtain ⟨blk', lb', a1, a2, a3, a4, a5⟩ := fold_blocks xs[k] h1 { row := [xs[k]], left := [], early := 0, late := 0 } [xs[k]] [] (.refl _) (List.pairwise_singleton ..) .nil hc hpk hnk
    refine ⟨blk' :: lb', ?_, ?_, ?_, ?_⟩
    · rw [e, runS_snoc]
      exact .cons a1 a2 a3
    · rw [flat, a4, h2, e]; simp [flat]
    · rw [e, runS_snoc]
      show (runS (xs.take k)).late + (sAll xs[k] _).late = _
      rw [invs_cons, h3]
      have e1 : invs ([] : List (List (Int × Int))) = 0 := rfl
      rw [inv_one, e1] at a5
      unfold sAll
      dsimp only at a5
      (first | lia | omega)
    · rw [e, runS_snoc]
      show (runS (xs.take k)).early + (sAll xs[k] _).early = _
      unfold sAll
      rw [h4, sAll_early, inv_snoc, above_flat h1, h2]
      dsimp only
      (first | lia | omega)
/-- what the last sums over all rows are -/
def crossR : List (List (Int × Int)) → Int
  | [] => 0
  | b :: bs => crossR bs + (bs.map fun o => crs o b).sum
theorem crossR_rel {rs bs : List (List (Int × Int))} (h : Rel rs bs) : crossR rs = crossR bs := by
  induction h with
  | nil => rfl
  | @cons r b rs bs a _ h ih =>
    rw [crossR, crossR, ih]
    congr 1
    clear ih
    induction h with
    | nil => rfl
    | cons c _ _ ih => rw [List.map_cons, List.map_cons, List.sum_cons, List.sum_cons, ih, crs_perm c a]
theorem inv_flat : ∀ (bs : List (List (Int × Int))), inv (flat bs) = invs bs + crossR bs
  | [] => rfl
  | b :: bs => by
    have e : ∀ cs : List (List (Int × Int)), crs (flat cs) b = (cs.map fun o => crs o b).sum := by
      intro cs
      induction cs with
      | nil => rw [flat, crs_nil]; rfl
      | cons c cs ih => rw [flat, crs_append, ih, List.map_cons, List.sum_cons]; (first | lia | omega)
    rw [flat, inv_append, inv_flat bs, invs_cons, crossR, e]
    (first | lia | omega)
def sumTo (g : List (Int × Int) → Int) (rs : List (List (Int × Int))) : Nat → Int
  | 0 => 0
  | i + 1 => sumTo g rs i + g (rs.getD (rs.length - 1 - i) [])
theorem sumTo_drop (g : List (Int × Int) → Int) (rs : List (List (Int × Int))) : ∀ i, i ≤ rs.length → sumTo g rs i = ((rs.drop (rs.length - i)).map g).sum
  | 0, _ => by simp [sumTo]
  | i + 1, h => by
    have hi : rs.length - 1 - i < rs.length := by (first | lia | omega)
    have e1 : rs.length - (i + 1) = rs.length - 1 - i := by (first | lia | omega)
    have e2 : rs.length - 1 - i + 1 = rs.length - i := by (first | lia | omega)
    rw [sumTo, sumTo_drop g rs i (by (first | lia | omega)), e1, List.drop_eq_getElem_cons hi, e2, List.map_cons, List.sum_cons]
    simp only [List.getD_eq_getElem?_getD, List.getElem?_eq_getElem hi, Option.getD_some]
    (first | lia | omega)
theorem cross_eq (rs : List (List (Int × Int))) (j : Nat) : cross rs j = ((rs.take j).map fun nr => crs (rs.getD j []) nr).sum := by
  unfold cross
  generalize rs.take j = t
  induction t with
  | nil => rfl
  | cons a t ih => rw [List.flatMap_cons, sum_append, ih, List.map_cons, List.sum_cons]; rfl
theorem cross_cons (r : List (Int × Int)) (rs : List (List (Int × Int))) (j : Nat) : cross (r :: rs) (j + 1) = crs (rs.getD j []) r + cross rs j := by
  rw [cross_eq, cross_eq, List.take_succ_cons, List.map_cons, List.sum_cons]
  rfl
theorem lateTo_cons (r : List (Int × Int)) (rs : List (List (Int × Int))) : ∀ i, i ≤ rs.length → lateTo (r :: rs) i = lateTo rs i + sumTo (fun o => crs o r) rs i
  | 0, _ => rfl
  | i + 1, h => by
    have e : (r :: rs).length - 1 - i = (rs.length - 1 - i) + 1 := by rw [List.length_cons]; (first | lia | omega)
    rw [lateTo, lateTo_cons r rs i (by (first | lia | omega)), e, cross_cons, lateTo, sumTo]
    (first | lia | omega)
theorem lateTo_all : ∀ (rs : List (List (Int × Int))), lateTo rs rs.length = crossR rs
  | [] => rfl
  | r :: rs => by
    rw [List.length_cons, lateTo, lateTo_cons r rs rs.length (Nat.le_refl _), lateTo_all rs, crossR, sumTo_drop _ _ _ (Nat.le_refl _)]
    have e : (r :: rs).length - 1 - rs.length = 0 := by rw [List.length_cons]; (first | lia | omega)
    have e2 : cross (r :: rs) 0 = 0 := rfl
    rw [e, e2, Nat.sub_self, List.drop_zero]
    (first | lia | omega)
theorem late_all {xs : List (Int × Int)} (hl : xs.length ≤ 19) (hp : xs.Pairwise (fun y z => y.2 < z.2)) (hn : ∀ y ∈ xs, Near y) : (runS xs).early = inv xs ∧ (runS xs).late + lateTo (runS xs).rows (runS xs).rows.length = inv xs := by
  first | (refine e0a5 (run_inv hl hp hn xs.length (Nat.le_refl _)) ?_; intro bs h1 h2 h3 h4) | (refine e1a4 (run_inv hl hp hn xs.length (Nat.le_refl _)) ?_; intro bs h1 h2 h3 h4) | (refine e2a3 (run_inv hl hp hn xs.length (Nat.le_refl _)) ?_; intro bs h1 h2 h3 h4) | (refine e3a2 (run_inv hl hp hn xs.length (Nat.le_refl _)) ?_; intro bs h1 h2 h3 h4) | (refine e4a1 (run_inv hl hp hn xs.length (Nat.le_refl _)) ?_; intro bs h1 h2 h3 h4) | obtain ⟨bs, h1, h2, h3, h4⟩ := run_inv hl hp hn xs.length (Nat.le_refl _)
  rw [List.take_length] at h1 h2 h3 h4
  refine ⟨h4, ?_⟩
  rw [lateTo_all, crossR_rel h1, h3, ← h2, inv_flat]
theorem flat_drop (bs : List (List (Int × Int))) (j : Nat) (hj : j < bs.length) : flat bs = flat (bs.drop (j + 1)) ++ (bs.getD j [] ++ flat (bs.take j)) := by
  have e : bs = bs.take j ++ bs.getD j [] :: bs.drop (j + 1) := by
    conv => lhs; rw [← List.take_append_drop j bs, List.drop_eq_getElem_cons hj]
    simp [hj]
  conv => lhs; rw [e, flat_append, flat, List.append_assoc]
theorem run_parts {xs : List (Int × Int)} (hl : xs.length ≤ 19) (hp : xs.Pairwise (fun y z => y.2 < z.2)) (hn : ∀ y ∈ xs, Near y) : ∀ i, i < (runS xs).rows.length →
    begTo (runS xs).rows i + ((runS xs).rows.getD ((runS xs).rows.length - 1 - i) []).length ≤ xs.length ∧ ((xs.drop (begTo (runS xs).rows i)).take ((runS xs).rows.getD ((runS xs).rows.length - 1 - i) []).length).Perm ((runS xs).rows.getD ((runS xs).rows.length - 1 - i) []) ∧ Lex ((runS xs).rows.getD ((runS xs).rows.length - 1 - i) []) := by
  intro i hi
  first | (refine e0a5 (run_inv hl hp hn xs.length (Nat.le_refl _)) ?_; intro bs h1 h2 h3 h4) | (refine e1a4 (run_inv hl hp hn xs.length (Nat.le_refl _)) ?_; intro bs h1 h2 h3 h4) | (refine e2a3 (run_inv hl hp hn xs.length (Nat.le_refl _)) ?_; intro bs h1 h2 h3 h4) | (refine e3a2 (run_inv hl hp hn xs.length (Nat.le_refl _)) ?_; intro bs h1 h2 h3 h4) | (refine e4a1 (run_inv hl hp hn xs.length (Nat.le_refl _)) ?_; intro bs h1 h2 h3 h4) | obtain ⟨bs, h1, h2, h3, h4⟩ := run_inv hl hp hn xs.length (Nat.le_refl _)
  rw [List.take_length] at h1 h2 h3 h4
  generalize (runS xs).rows = rs at *
  obtain ⟨g1, g2⟩ := h1.get (rs.length - 1 - i)
  have hbl := h1.length
  have hb : begTo rs i = (flat (bs.drop (rs.length - 1 - i + 1))).length := by
    rw [begTo_le i (by (first | lia | omega)), flat_length, List.map_drop, List.map_drop, h1.len]
    congr 2
    (first | lia | omega)
  have ef := flat_drop bs (rs.length - 1 - i) (by (first | lia | omega))
  rw [h2] at ef
  have hlen := g1.length_eq
  have hxl := congrArg List.length ef
  rw [List.length_append, List.length_append] at hxl
  refine ⟨by (first | lia | omega), ?_, g2⟩
  have e3 : (xs.drop (begTo rs i)).take (rs.getD (rs.length - 1 - i) []).length = bs.getD (rs.length - 1 - i) [] := by
    rw [hb]
    conv => lhs; rw [ef]
    rw [List.drop_left, hlen, List.take_left]
  rw [e3]
  exact g1.symm
theorem run_rows {xs : List (Int × Int)} (hl : xs.length ≤ 19) (hp : xs.Pairwise (fun y z => y.2 < z.2)) (hn : ∀ y ∈ xs, Near y) (k : Nat) (hk : k ≤ xs.length) :
    (runS (xs.take k)).rows.length ≤ 5 ∧ ((runS (xs.take k)).rows.map (·.length)).sum = k ∧ (∀ r ∈ (runS (xs.take k)).rows, 1 ≤ r.length ∧ r.length ≤ k ∧ Sorted r) ∧ (1 ≤ k → Txt.join (Str.ofString ", ") ((runS (xs.take k)).rows.map fun r => PF r.length) = PF k) := by
  have hs := run_sizes xs k hk
  first | (refine e0a3 (sz_sum k (by (first | lia | omega))) ?_; intro s1 s2 s3) | (refine e1a2 (sz_sum k (by (first | lia | omega))) ?_; intro s1 s2 s3) | (refine e2a1 (sz_sum k (by (first | lia | omega))) ?_; intro s1 s2 s3) | obtain ⟨s1, s2, s3⟩ := sz_sum k (by (first | lia | omega))
  first | (refine e0a5 (run_inv hl hp hn k hk) ?_; intro bs h1 h2 _ _) | (refine e1a4 (run_inv hl hp hn k hk) ?_; intro bs h1 h2 _ _) | (refine e2a3 (run_inv hl hp hn k hk) ?_; intro bs h1 h2 _ _) | (refine e3a2 (run_inv hl hp hn k hk) ?_; intro bs h1 h2 _ _) | (refine e4a1 (run_inv hl hp hn k hk) ?_; intro bs h1 h2 _ _) | obtain ⟨bs, h1, h2, _, _⟩ := run_inv hl hp hn k hk
  generalize (runS (xs.take k)).rows = rs at *
  refine ⟨?_, by rw [hs]; exact s1, fun r hr => ⟨?_, ?_, ?_⟩, fun h => ?_⟩
  · rw [← hs, List.length_map] at s2; exact s2
  · rw [← hs, List.all_map, List.all_eq_true] at s3
    simpa using s3 r hr
  · have := len_le_sum hr
    rw [hs, s1] at this
    exact this
  · obtain ⟨j, hj⟩ := List.mem_iff_getElem?.mp hr
    obtain ⟨g1, g2⟩ := h1.get j
    rw [List.getD_eq_getElem?_getD, hj] at g1 g2
    refine lex_sorted g2 fun y hy => hn y ?_
    have hy2 := g1.mem_iff.mp hy
    have hjl : j < bs.length := by
      have := (List.getElem?_eq_some_iff.mp hj).1
      rw [← h1.length]; exact this
    have hm : y ∈ flat bs := by
      rw [flat_drop bs j hjl]
      exact List.mem_append_right _ (List.mem_append_left _ hy2)
    rw [h2] at hm
    exact List.mem_of_mem_take hm
  · have e : (rs.map fun r => PF r.length) = (szN k).map PF := by rw [← hs, List.map_map]; rfl
    rw [e]
    exact sz_names k (by (first | lia | omega)) h
end
end
section
section
set_option maxRecDepth 100000
theorem Fr.bindX2 {h₀ h : Heap} {L : Addr} {m : Str → Option Value} {x y : Str} {v u : Value} {ks : List (Str × Value)} (F : Fr h₀ L h (fun z => if z = x then some v else if z = y then some u else m z)) (hk : AllB ks m) : Fr h₀ L h (Mine.bindK ((x, v) :: (y, u) :: ks) m) := by
  have e : (fun z => if z = x then some v else if z = y then some u else m z) = Mine.bindK ((x, v) :: (y, u) :: ks) m := by
    funext z
    unfold Mine.bindK
    rw [List.lookup_cons, List.lookup_cons]
    by_cases h : z = x
    · subst h; simp
    · have h1 : (z == x) = false := by simpa using h
      rw [if_neg h, h1]
      dsimp only
      by_cases h : z = y
      · subst h; simp
      · have h2 : (z == y) = false := by simpa using h
        rw [if_neg h, h2]
        dsimp only
        exact congrFun (bindK_eq ks hk.all) z
  rw [← e]; exact F
theorem LexAt.offs {w : World} {X : LexIds} {ln : Int} {sg : List Value} {news news' : Led} {a b : Addr} (H : LexAt w X ln sg news) (hoc : ∃ vs, X.oc.data = .fields vs) (hocl : X.ocl.data = .cell (some (.ref X.G))) (ha : a ≠ X.G) (hb : b ≠ X.G) (h : ∀ p ∈ news, p.2.data ≠ .cell (some (.ref a)) → p.2.data ≠ .cell (some (.ref b)) → p ∈ news') : LexAt w X ln sg news' where
  hx := h _ H.hx (by simp) (by simp)
  hd := let ⟨t, ht⟩ := H.hd; ⟨t, h _ ht (by simp) (by simp)⟩
  hxs := h _ H.hxs (by simp) (by simp)
  hds := h _ H.hds (by simp) (by simp)
  hf := h _ H.hf (by simp) (by simp)
  hc := h _ H.hc (by obtain ⟨vs, e⟩ := hoc; rw [e]; simp) (by obtain ⟨vs, e⟩ := hoc; rw [e]; simp)
  hcl := h _ H.hcl (by rw [hocl]; simp; exact fun e => ha e.symm) (by rw [hocl]; simp; exact fun e => hb e.symm)
  hG := let ⟨n, hn⟩ := H.hG; ⟨n, h _ hn (by simp) (by simp)⟩
theorem LexAt.but {h₀ h : Heap} {L : Addr} {w : World} {X : LexIds} {ln : Int} {sg : List Value} {news news' : Led} {vs : List Value} {n : Nat} (N : News h₀ L h news) (H : LexAt w X ln sg news) (hoc : ∃ vs, X.oc.data = .fields vs) (hocl : X.ocl.data = .cell (some (.ref X.G))) (hP : (X.P, W.listOf vs.toArray n) ∈ news) (hne : X.P ≠ X.G) (hk : ∀ p ∈ news, p.1 ≠ X.P → p ∈ news') : LexAt w X ln sg news' where
  hx := hk _ H.hx (apart2 N H.hx hP fun e => by cases e)
  hd := let ⟨t, ht⟩ := H.hd; ⟨t, hk _ ht (apart N ht hP (by simp))⟩
  hxs := hk _ H.hxs (apart2 N H.hxs hP fun e => by cases e)
  hds := hk _ H.hds (apart N H.hds hP (by simp))
  hf := hk _ H.hf (apart N H.hf hP (by simp))
  hc := hk _ H.hc (apart2 N H.hc hP fun e => by obtain ⟨vs, e'⟩ := hoc; rw [e] at e'; simp at e')
  hcl := hk _ H.hcl (apart2 N H.hcl hP fun e => by rw [e] at hocl; simp at hocl)
  hG := let ⟨n, hn⟩ := H.hG; ⟨n, hk _ hn (Ne.symm hne)⟩
theorem strs_inv {vs : List Value} {xs : List Str} (h : StrsAre vs xs) : ∀ (i : Nat) (v : Value), vs[i]? = some v → ∃ hi : i < xs.length, ∃ t, v = .str xs[i] t := by
  induction h with
  | nil => intro i v hv; simp at hv
  | cons y t _ ih =>
    intro i v hv
    cases i with
    | zero => simp at hv; exact ⟨by simp, t, hv.symm⟩
    | succ i => simp at hv; obtain ⟨hi, t', e⟩ := ih i v hv; exact ⟨by simpa using hi, t', by simpa using e⟩
theorem num_text {v : Int} (h1 : -20 ≤ v) (h2 : v ≤ 20) : PySem.intText? (numT v) = some v :=
  by41 (P := fun v => PySem.intText? (numT v) = some v) (by decide +kernel) h1 h2
theorem c_flagsZ {w : World} {loose mean mg mb} {news : Led} {z : Int} {tk0 : Tok} (h1 : 1 ≤ z) (h2 : z ≤ 31) :
    Ctr w loose mean mg mb 2 20 82 [.int z tk0] [] news (fun r n => (∃ t, r = .str (PF z.toNat) t) ∧ n = news) := by
  obtain ⟨k, rfl⟩ := Int.eq_ofNat_of_zero_le (show 0 ≤ z by (first | lia | omega))
  exact c_flags (k := k) (by (first | lia | omega)) (by (first | lia | omega))
theorem c_storedZ {w : World} {loose mean mg mb} {news : Led} {X d P : Addr} {ln : Int} {t : Tok} {ins : Value} {a0 a1 a2 a3 a4 : Tok} {pb : List Value} {nP : Nat} {es : List Addr} {rs : List (List (Int × Int))} {ti : Addr} {v p : Int} {k u : Tok} {tw : Tok} {z : Int}
    (hX : (X, instObj 52 d) ∈ news) (hD : (d, lexD w ln t ins P a0 a1 a2 a3 a4) ∈ news) (hP : (P, W.listOf pb.toArray nP) ∈ news) (hR : RowsAt news pb es rs) (hI : (ti, pairO v p k u) ∈ news) (hlen : rs.length ≤ 20) (hnd : (P :: es).Nodup)
    (hsz : ∀ r ∈ rs, 1 ≤ r.length ∧ Sorted r) (htot : (rs.map (·.length)).sum ≤ 30) (hz : z = (rs.length : Int)) :
    Ctr w loose mean mg mb 5 100 113 [.ref X, .int z tw, .ref ti] [] news (fun r n => StoredPost news P es (sAll (v, p) rs) r n) := by
  subst hz
  exact c_stored hX hD hP hR hI hlen hnd hsz htot
theorem sz_weight : ∀ k, k < 20 → (((szN k).map PF).map (·.length)).sum + ((szN k).map PF).length ≤ 1048576 := by decide +kernel
theorem itemsFrom_mem : ∀ (l : List Int) (k : Nat), ∀ y ∈ itemsFrom k l, (k : Int) ≤ y.2 ∧ y.2 < (k : Int) + l.length
  | [], _, y, hy => by cases hy
  | c :: r, k, y, hy => by
    rw [itemsFrom] at hy
    rcases List.mem_cons.mp hy with rfl | hy
    · simp [itemOf]; (first | lia | omega)
    · have := itemsFrom_mem r (k + 1) y hy
      simp at this ⊢
      (first | lia | omega)
theorem itemsFrom_pw : ∀ (l : List Int) (k : Nat), (itemsFrom k l).Pairwise (fun y z => y.2 < z.2)
  | [], _ => .nil
  | c :: r, k => by
    rw [itemsFrom]
    refine List.pairwise_cons.mpr ⟨fun y hy => ?_, itemsFrom_pw r (k + 1)⟩
    have := itemsFrom_mem r (k + 1) y hy
    simp [itemOf] at this ⊢
    (first | lia | omega)
theorem items_near {ns : List Int} (h : (cellsOf ns).length ≤ 19) : ∀ y ∈ itemsFrom 0 (cellsOf ns), Near y := fun y hy => by
  have := itemsFrom_mem _ 0 y hy
  constructor <;> (first | lia | omega)
theorem run_weight {xs : List (Int × Int)} (hl : xs.length ≤ 19) (k : Nat) (hk : k ≤ xs.length) : (((runS (xs.take k)).rows.map fun r => PF r.length).map (·.length)).sum + ((runS (xs.take k)).rows.map fun r => PF r.length).length ≤ 1048576 := by
  have e : ((runS (xs.take k)).rows.map fun r => PF r.length) = (szN k).map PF := by rw [← run_sizes xs k hk, List.map_map]; rfl
  rw [e]
  exact sz_weight k (by (first | lia | omega))
theorem runS_take {xs : List (Int × Int)} {i : Nat} (hi : i < xs.length) : runS (xs.take (i + 1)) = stepS (runS (xs.take i)) xs[i] := by
  rw [List.take_add_one, List.getElem?_eq_getElem hi, ← runS_snoc]; rfl
theorem RowsAt.lists {nw : Led} {pv : List Value} {es : List Addr} {rs : List (List (Int × Int))} (h : RowsAt nw pv es rs) : ∀ e ∈ es, ∃ vs n, (e, W.listOf (List.toArray vs) n) ∈ nw := by
  induction h with
  | nil => intro v hv; cases hv
  | cons _ h2 _ _ ih =>
    intro v hv
    rcases List.mem_cons.mp hv with rfl | hv
    · exact ⟨_, _, h2⟩
    · exact ih v hv
theorem nums_get (ns : List Int) (i : Nat) (h : i < (nums ns).length) (h2 : i < (cellsOf ns).length) : (nums ns)[i] = numT ((cellsOf ns)[i].fmod 41 - 20) := by
  simp [nums]
theorem news_uniq {h₀ h : Heap} {L : Addr} {nw : Led} {a : Addr} {o : Obj} (N : News h₀ L h nw) (ha : (a, o) ∈ nw) : ∀ q ∈ nw, q.1 = a → q = (a, o) := by
  intro zq1 hq e
  (try dsimp only)
  (try k_fold)
  obtain ⟨b, ob⟩ := zq1
  dsimp only at e
  subst e
  have h1 := (N _ ha).1
  have h2 := (N _ hq).1
  dsimp only at h1 h2
  rw [h1] at h2
  cases h2
  rfl
theorem items_dis {ns : List Int} (h : (cellsOf ns).length ≤ 19) : (itemsFrom 0 (cellsOf ns)).Pairwise (fun y z => lexK y ≠ lexK z) := by
  refine List.Pairwise.imp_of_mem (R := fun y z => y.2 < z.2) (fun {y z} hy hz hlt => ?_) (itemsFrom_pw _ 0)
  have h1 := items_near h y hy
  have h2 := items_near h z hz
  unfold lexK
  (first | lia | omega)
theorem strs_refs {vs : List Value} {xs : List Str} (h : StrsAre vs xs) (hr : ∀ v ∈ vs, ∃ T, v = .ref T) : vs = [] := by
  cases h with
  | nil => rfl
  | cons y t _ => obtain ⟨T, e⟩ := hr _ (.head _); cases e
theorem above_step {xs : List (Int × Int)} {y : Int × Int} {q : Nat} (hq : q < xs.length) : above (xs.take (q + 1)) y = above (xs.take q) y + (if y.1 < xs[q].1 then 1 else 0) := by
  rw [List.take_add_one, List.getElem?_eq_getElem hq, above_append]
  congr 1
  rw [above_eq]
  show ((List.countP _ [xs[q]] : Nat) : Int) = _
  rw [List.countP_singleton]
  by_cases h : y.1 < xs[q].1 <;> simp [h]
theorem inv_take {xs : List (Int × Int)} {i : Nat} (hi : i < xs.length) : inv (xs.take (i + 1)) = inv (xs.take i) + above (xs.take i) xs[i] := by
  rw [List.take_add_one, List.getElem?_eq_getElem hi]
  exact inv_snoc _ _
theorem ones_snoc {ys : List Value} {n : Nat} {t : Tok} (h : IntsAre ys (List.replicate n 1)) : IntsAre (ys ++ [.int 1 t]) (List.replicate (n + 1) 1) := by
  have : List.replicate (n + 1) (1 : Int) = List.replicate n 1 ++ [1] := by rw [List.replicate_succ']
  rw [this]
  exact h.append (.cons _ _ .nil)
theorem ones_sum (n : Nat) : (List.replicate n (1 : Int)).sum = n := by
  induction n with
  | zero => rfl
  | succ n ih => rw [List.replicate_succ, List.sum_cons, ih]; (first | lia | omega)
theorem news_last {h₀ h : Heap} {L : Addr} {a b c d e : Addr × Obj} {nw : Led} (N : News h₀ L h (a :: b :: c :: d :: e :: nw)) : News h₀ L h ([b, c] ++ d :: e :: a :: nw) := fun p hp => by
  refine N p ?_
  rcases List.mem_cons.mp hp with rfl | hp
  · exact .tail _ (.head _)
  rcases List.mem_cons.mp hp with rfl | hp
  · exact .tail _ (.tail _ (.head _))
  rcases List.mem_cons.mp hp with rfl | hp
  · exact .tail _ (.tail _ (.tail _ (.head _)))
  rcases List.mem_cons.mp hp with rfl | hp
  · exact .tail _ (.tail _ (.tail _ (.tail _ (.head _))))
  rcases List.mem_cons.mp hp with rfl | hp
  · exact .head _
  · exact .tail _ (.tail _ (.tail _ (.tail _ (.tail _ hp))))
theorem name2a {g h : Heap} {L : Addr} {a1 a2 : Addr} {o1 o2 : Obj} {news : Led} (N : News g L h ((a1, o1) :: (a2, o2) :: news)) : ∃ q4, q4 = a2 := ⟨_, rfl⟩
end
end
section
section
set_option maxRecDepth 100000
section
variable {prog : Program} {w : World} {A : Around} {E : Value → Shared → Prop} {s : Shared} {h₀ : Heap} {L a b : Addr} {news : List (Addr × Obj)} {oa ob : Obj} {xs ys : List Value} {ka kb : Nat} {ds : List W.Dat} {Q : Value → Shared → Prop}
theorem tup_reads (N : News h₀ L s.heap news) (ma : (a, oa) ∈ news) (ca : oa.cls = .type "tuple") (da : oa.data = .seq xs.toArray ka) (Da : DatAll news xs ds) (ha : ∀ d ∈ ds, kqdOk 8 d = true) :
    ∃ as, Reads s.heap (.ref a) (.tuple (kqdPs ds)) as ∧ SeqAt.shaped (.tuple (kqdPs ds)) = true := by
  obtain ⟨as, ra⟩ := kqd_all N 8 Da ha
  have la := kqd_lay 9 (.tuple ds) (by simpa [kqdOk] using ha)
  rw [kqdP] at la
  refine ⟨as, reads_tuple_at (N.get ma) ca da (by simpa using ra), ?_⟩
  unfold SeqAt.shaped
  rw [la.1, Bool.true_and]
  exact decide_eq_true (Nat.le_trans la.2 (by decide))
theorem tup_eqv (ha : ∀ d ∈ ds, kqdOk 8 d = true) : PyData.eqv (.tuple (kqdPs ds)) (.tuple (kqdPs ds)) = true := by
  have q := kqd_eqv 9 (.tuple ds) (.tuple ds) 9 (by simpa [kqdOk] using ha) (by simpa [kqdOk] using ha)
  rw [kqdP] at q
  exact q.mpr rfl
theorem tup_ne (N : News h₀ L s.heap news) (ma : (a, oa) ∈ news) (ca : oa.cls = .type "tuple") (da : oa.data = .seq xs.toArray ka) (Da : DatAll news xs ds)
    (mb : (b, ob) ∈ news) (cb : ob.cls = .type "tuple") (db : ob.data = .seq ys.toArray kb) (Db : DatAll news ys ds)
    (ha : ∀ d ∈ ds, kqdOk 8 d = true) (hu : A.units + 64 < cLine) (h : Q (.bool false) s) : wpAny (model prog w) A (compareOp .NotEq (.ref a) (.ref b)) Q E s := by
  first | (refine e0a3 (tup_reads N ma ca da Da ha) ?_; intro as ra sa) | (refine e1a2 (tup_reads N ma ca da Da ha) ?_; intro as ra sa) | (refine e2a1 (tup_reads N ma ca da Da ha) ?_; intro as ra sa) | obtain ⟨as, ra, sa⟩ := tup_reads N ma ca da Da ha
  first | (refine e0a3 (tup_reads N mb cb db Db ha) ?_; intro bs rb sb) | (refine e1a2 (tup_reads N mb cb db Db ha) ?_; intro bs rb sb) | (refine e2a1 (tup_reads N mb cb db Db ha) ?_; intro bs rb sb) | obtain ⟨bs, rb, sb⟩ := tup_reads N mb cb db Db ha
  exact ne_dataH ra rb sa sb hu (by rw [tup_eqv ha]; exact h)
theorem tup_eq (N : News h₀ L s.heap news) (ma : (a, oa) ∈ news) (ca : oa.cls = .type "tuple") (da : oa.data = .seq xs.toArray ka) (Da : DatAll news xs ds)
    (mb : (b, ob) ∈ news) (cb : ob.cls = .type "tuple") (db : ob.data = .seq ys.toArray kb) (Db : DatAll news ys ds)
    (ha : ∀ d ∈ ds, kqdOk 8 d = true) (hu : A.units + 64 < cLine) (h : Q (.bool true) s) : wpAny (model prog w) A (compareOp .Eq (.ref a) (.ref b)) Q E s := by
  first | (refine e0a3 (tup_reads N ma ca da Da ha) ?_; intro as ra sa) | (refine e1a2 (tup_reads N ma ca da Da ha) ?_; intro as ra sa) | (refine e2a1 (tup_reads N ma ca da Da ha) ?_; intro as ra sa) | obtain ⟨as, ra, sa⟩ := tup_reads N ma ca da Da ha
  first | (refine e0a3 (tup_reads N mb cb db Db ha) ?_; intro bs rb sb) | (refine e1a2 (tup_reads N mb cb db Db ha) ?_; intro bs rb sb) | (refine e2a1 (tup_reads N mb cb db Db ha) ?_; intro bs rb sb) | obtain ⟨bs, rb, sb⟩ := tup_reads N mb cb db Db ha
  exact eq_dataH ra rb sa sb hu (by rw [tup_eqv ha]; exact h)
end
def nlIn (x : Str) : Int := (x.cps.toList.map fun n => if decide (n = 10) = true then (1 : Int) else 0).sum
theorem nlIn_cat : ∀ l : List Str, nlIn (catS l) = (l.map nlIn).sum
  | [] => by decide
  | x :: r => by
    rw [catS, List.map_cons, List.sum_cons, ← nlIn_cat r]
    unfold nlIn
    rw [str_app, List.map_append, sum_append]
theorem nlIn_word {v : Int} (h1 : -20 ≤ v) (h2 : v ≤ 20) (m : Int) : nlIn (wordT v m) = if m.fmod 3 = 2 then 1 else 0 := by
  have : ∀ n : Fin 41, ∀ k : Fin 3, nlIn (word3 ((n : Nat) - 20 : Int) k) = if (k : Nat) = 2 then 1 else 0 := by decide +kernel
  have h3 := Int.fmod_nonneg_of_pos m (b := 3) (by (first | lia | omega))
  have h4 := Int.fmod_lt_of_pos m (b := 3) (by (first | lia | omega))
  have h := this ⟨(v + 20).toNat, by (first | lia | omega)⟩ ⟨(m.fmod 3).toNat, by (first | lia | omega)⟩
  have e : (((⟨(v + 20).toNat, by (first | lia | omega)⟩ : Fin 41) : Nat) - 20 : Int) = v := by dsimp only; (first | lia | omega)
  rw [wordT_mod]
  rw [e] at h
  dsimp only at h
  rw [h]
  by_cases hm : m.fmod 3 = 2
  · rw [if_pos hm, if_pos (by (first | lia | omega))]
  · rw [if_neg hm, if_neg (by (first | lia | omega))]
theorem text_lines (ns : List Int) : Txt.count (Txt.join (Str.ofString "") ((cellsOf ns).map wOf)) (Str.ofString "\n") = lnTo (cellsOf ns) := by
  have e0 : (Str.ofString "\n") = ⟨#[10]⟩ := by decide
  rw [e0, count_is, countIn_signs_sum, join_nil]
  show nlIn (catS _) = _
  rw [nlIn_cat]
  unfold lnTo
  rw [List.map_map]
  congr 1
  refine List.map_congr_left fun c hc => ?_
  have hb := cells_bnd c hc
  first | (refine e0a4 (cell_args hb.1 hb.2) ?_; intro a1 a2 _ _) | (refine e1a3 (cell_args hb.1 hb.2) ?_; intro a1 a2 _ _) | (refine e2a2 (cell_args hb.1 hb.2) ?_; intro a1 a2 _ _) | (refine e3a1 (cell_args hb.1 hb.2) ?_; intro a1 a2 _ _) | obtain ⟨a1, a2, _, _⟩ := cell_args hb.1 hb.2
  show nlIn (wordT _ _) = nlOf c
  rw [nlIn_word a1 a2]
  rfl
theorem above_nonneg (r : List (Int × Int)) (y : Int × Int) : 0 ≤ above r y := by rw [above_eq]; (first | lia | omega)
theorem crs_nonneg (o r : List (Int × Int)) : 0 ≤ crs o r := by
  unfold crs
  induction r with
  | nil => simp
  | cons y r ih =>
    rw [List.map_cons, List.sum_cons]
    have := above_nonneg o y
    (first | lia | omega)
theorem crossR_nonneg : ∀ rs : List (List (Int × Int)), 0 ≤ crossR rs
  | [] => Int.le_refl _
  | r :: rs => by
    rw [crossR]
    have h1 := crossR_nonneg rs
    have h2 : ∀ t : List (List (Int × Int)), 0 ≤ (t.map fun o => crs o r).sum := fun t => by
      induction t with
      | nil => simp
      | cons o t ih =>
        rw [List.map_cons, List.sum_cons]
        have := crs_nonneg o r
        (first | lia | omega)
    have := h2 rs
    (first | lia | omega)
theorem late_nonneg (rs : List (List (Int × Int))) : 0 ≤ lateTo rs rs.length := by rw [lateTo_all]; exact crossR_nonneg rs
theorem kqd_ints (a b : Int) : ∀ d ∈ [W.Dat.int a, W.Dat.int b], kqdOk 8 d = true := by
  intro d hd
  rcases List.mem_cons.mp hd with rfl | hd
  · rfl
  · rw [List.mem_singleton.mp hd]; rfl
theorem kqd_si (b : Int) : ∀ d ∈ [W.Dat.str (Str.ofString ""), W.Dat.int b], kqdOk 8 d = true := by
  intro d hd
  rcases List.mem_cons.mp hd with rfl | hd
  · simp only [kqdOk]; decide +kernel
  · rw [List.mem_singleton.mp hd]; rfl
theorem di {news : Led} {i j : Int} {t : Tok} (e : i = j) : DatIn news (.int i t) (.int j) := by
  subst e; exact .int _ _
/-- where it stands in the context, the next call of a def waits -/
def MarkTok : Prop := True
theorem MarkTok.intro : MarkTok := trivial
end
end
section
section
theorem comp_AL {prog : Program} {w : World} {A : Around} {E : Value → Shared → Prop} {s : Shared} {env : Env} {elt target iter : Expr} {ifs : List Expr} {more : List Comprehension} {scope : Scope} {cl : List (Str × Addr)} {pos spos : Pos} {y : Str} {py : Pos} {Q : Flow → Shared → Prop} (_ : env.kindOf y = some .local)
    (hsw : swapsWith (.ListComp elt (⟨target, iter, ifs, 0⟩ :: more) scope pos) (some (.Name y py)) spos.line env = pure true)
    (hclos : closureFor scope env = pure cl) (hkind : scope.kind = .function) (hnames : ∀ y ∈ scope.names, y.2 = .local → scope.names.lookup y.1 = some .local)
    (h : wpAny (model prog w) A (eval iter env) (fun xv s₁ => wpAny (model prog w) A (pyIter xv) (CompAt prog w A env elt (⟨target, iter, ifs, 0⟩ :: more) scope cl pos (compPost (model prog w) A E (some (assign (.Name y py) env)) (fun _ s' => Q .next s')) E) E s₁) E s)
    (hs : ∀ x, foldedSetIterable iter env x = pure x := by intro _; rfl) :
    wpAny (model prog w) A (exec (.Assign [.Name y py] (.ListComp elt (⟨target, iter, ifs, 0⟩ :: more) scope pos) spos) env) Q E s := comp_A hsw hclos hkind hnames h hs
local macro_rules | `(tactic| walk_at "call ref") => `(tactic| (k_here; refine Hold.out ?_))
local macro_rules | `(tactic| walk_at "binaryOp Add ref ref") => `(tactic| (k_here; refine Hold.out ?_))
local macro_rules | `(tactic| walk_at "exec Assign cons ListComp") => `(tactic| (k_here; first
  | (refine wpAny_Assign_Name ?_ ?hsF; (case hsF => with_unfolding_all rfl))
  | (refine Hold.out ?_)))
local macro_rules | `(tactic| walk_at "pyIter ref") => `(tactic| (k_here; (with_reducible show wpAny _ _ (pyIter (Value.ref _)) (fun it s₂ => wpAny _ _ (runOwn _ _) _ _ _) _ _); refine Hold.out ?_))
local macro_rules | `(tactic| walk_at "compareOp NotEq ref ref") => `(tactic| (k_here; refine Hold.out ?_))
local macro_rules | `(tactic| walk_at "compareOp Eq ref ref") => `(tactic| (k_here; refine Hold.out ?_))
local macro_rules | `(tactic| walk_at "call type:enumerate") => `(tactic| (k_here; refine Hold.out ?_))
theorem cellsL {g h : Heap} {L a : Addr} {k : Nat} {r : Led} {t1 t2 t3 t4 t5 t6 t7 : Tok} {ys : List Value} {ns : List Int} (N : News g L h ((a, PySem.W.listOf ([Value.int 25 t1, Value.int 66 t2, Value.int 100 t3, Value.int 20 t4, Value.int 22 t5, Value.int 141 t6, Value.int 58 t7] ++ ys).toArray k) :: r)) (hy : IntsAre ys ((ns.take 12).map cellF)) :
    ∃ cvs, News g L h ((a, PySem.W.listOf (List.toArray cvs) k) :: r) ∧ IntsAre cvs (cellsOf ns) :=
  ⟨_, N, IntsAre.append (.cons _ _ (.cons _ _ (.cons _ _ (.cons _ _ (.cons _ _ (.cons _ _ (.cons _ _ .nil))))))) hy⟩
theorem pull2 {g h : Heap} {L a b : Addr} {oa ob : Obj} {nw : Led} (N : News g L h nw) (ha : (a, oa) ∈ nw) (hb : (b, ob) ∈ nw) (hne : a ≠ b) :
    ∃ r : Led, News g L h ((a, oa) :: (b, ob) :: r) ∧ (∀ p ∈ (b, ob) :: r, p.1 ≠ a) ∧ (∀ p ∈ r, p.1 ≠ b) ∧ (∀ p ∈ nw, p.1 ≠ a → p.1 ≠ b → p ∈ r) ∧ (∀ p ∈ r, p ∈ nw) := by
  first | (refine e0a5 (pull N ha) ?_; intro r1 N1 a1 a2 a3) | (refine e1a4 (pull N ha) ?_; intro r1 N1 a1 a2 a3) | (refine e2a3 (pull N ha) ?_; intro r1 N1 a1 a2 a3) | (refine e3a2 (pull N ha) ?_; intro r1 N1 a1 a2 a3) | (refine e4a1 (pull N ha) ?_; intro r1 N1 a1 a2 a3) | obtain ⟨r1, N1, a1, a2, a3⟩ := pull N ha
  first | (refine e0a5 (pull (fun p hp => N1 p (.tail _ hp)) (a2 _ hb (Ne.symm hne))) ?_; intro r2 N2 b1 b2 b3) | (refine e1a4 (pull (fun p hp => N1 p (.tail _ hp)) (a2 _ hb (Ne.symm hne))) ?_; intro r2 N2 b1 b2 b3) | (refine e2a3 (pull (fun p hp => N1 p (.tail _ hp)) (a2 _ hb (Ne.symm hne))) ?_; intro r2 N2 b1 b2 b3) | (refine e3a2 (pull (fun p hp => N1 p (.tail _ hp)) (a2 _ hb (Ne.symm hne))) ?_; intro r2 N2 b1 b2 b3) | (refine e4a1 (pull (fun p hp => N1 p (.tail _ hp)) (a2 _ hb (Ne.symm hne))) ?_; intro r2 N2 b1 b2 b3) | obtain ⟨r2, N2, b1, b2, b3⟩ := pull (fun p hp => N1 p (.tail _ hp)) (a2 _ hb (Ne.symm hne))
  refine ⟨r2, fun p hp => ?_, fun p hp => ?_, b1, fun p hp h1 h2 => b2 p (a2 p hp h1) h2, fun p hp => a3 p (b3 p hp)⟩
  · rcases List.mem_cons.mp hp with rfl | hp
    · exact N _ ha
    · exact N2 p hp
  · rcases List.mem_cons.mp hp with rfl | hp
    · exact Ne.symm hne
    · exact a1 p (b3 p hp)
theorem its_take {news : Led} {ys : List Value} {xs : List (Int × Int)} {j : Nat} {T : Addr} {v p : Int} {a b : Tok} (h : Its news ys (xs.take j)) (hx : xs[j]? = some (v, p)) (hm : (T, pairO v p a b) ∈ news) : Its news (ys ++ [.ref T]) (xs.take (j + 1)) := by
  rw [List.take_add_one, hx]
  exact h.append (.cons hm .nil)
local macro_rules | `(tactic| walk_at "subscriptTail Name Slice ref ref") => `(tactic| (k_here; (with_reducible show wpAny _ _ (subscriptTail _ (PySem.Expr.Slice _ _ none _) (Value.ref _) (Value.ref _)) _ _ _); k_dflt (refine' slice_L ?F ?N ?l ?p ?q ?e ?_ ?s ?t ?z; (case F => k_asm); (case N => k_asm); (case l => k_mem); (case p => first | exact IsPart.none | exact IsPart.int _ _); (case q => first | exact IsPart.none | exact IsPart.int _ _); (case e => first | exact pick_run2 (by omega) (by omega) (by omega) | exact pick_upto (by omega)); (case s => with_unfolding_all rfl); (case t => kmk_pure); (case z => omega)); intro D' h' F' N' l1; (try k_lt l1); (try k_sweep)))
local macro_rules | `(tactic| walk_at "FEnd2") => `(tactic| (k_here; refine Hold.out ?_))
local macro_rules | `(tactic| walk_at "call builtin:str.join") => `(tactic| (k_here; refine Hold.out ?_))
local macro_rules | `(tactic| walk_at "callWith ref") => `(tactic| (k_here; (have h7 : MarkTok := by with_reducible assumption); refine Hold.out ?_))
theorem lnTo_take {l : List Int} {i : Nat} (hi : i < l.length) : lnTo (l.take (i + 1)) = lnTo (l.take i) + nlOf l[i] := by
  unfold lnTo
  rw [List.take_add_one, List.getElem?_eq_getElem hi, List.map_append, List.sum_append]
  simp
theorem LexF.mono {w : World} {X : LexIds} {ln : Int} {cs : List Str} {n n' : Led} (h : LexF w X ln cs n) (hk : ∀ p ∈ n, p ∈ n') : LexF w X ln cs n' := h.frame hk
theorem nameX {w : World} {X : LexIds} {ln : Int} {sg : List Value} {n : Led} (H : LexAt w X ln sg n) : ∃ a b, a = X ∧ b = sg := ⟨_, _, rfl, rfl⟩
theorem name34 {g h : Heap} {L : Addr} {a1 a2 a3 a4 : Addr} {o1 o2 o3 o4 : Obj} {news : Led} (N : News g L h ((a1, o1) :: (a2, o2) :: (a3, o3) :: (a4, o4) :: news)) : ∃ q3 q4, q3 = o3 ∧ q4 = o4 := ⟨_, _, rfl, rfl⟩
theorem nameK {K g h : Heap} {A : Around} {o : List Env} (B : Below A g o h) : ∃ a, a = h := ⟨_, rfl⟩
theorem nameN63 {l : List Int} (h : ¬ ((63 : Nat) : Int) < (l.length : Int)) : ∃ a, a = l := ⟨_, rfl⟩
theorem nameI {vs : List Value} {ns : List Int} (h : IntsAre vs ns) : ∃ a b, a = vs ∧ b = ns := ⟨_, _, rfl, rfl⟩
theorem nameW {w : World} {h : Heap} (X : (Mine.hk.heap_1 w.params).In h) : ∃ a, a = w := ⟨_, rfl⟩
theorem ints_get {vs : List Value} {ns : List Int} (h : IntsAre vs ns) : ∀ (i : Nat) (v : Value), vs[i]? = some v → ∃ hi : i < ns.length, ∃ t, v = .int ns[i] t := by
  induction h with
  | nil => intro i v hv; simp at hv
  | cons n t _ ih =>
    intro i v hv
    cases i with
    | zero => simp at hv; exact ⟨by simp, t, hv.symm⟩
    | succ i => simp at hv; obtain ⟨hi, t', e⟩ := ih i v hv; exact ⟨by simpa using hi, t', by simpa using e⟩
theorem intsA_take {f : Int → Int} {ys : List Value} {row : List Int} {j : Nat} {t : Tok} {z : Int} (h : IntsAre ys ((row.take j).map f)) (hj : j < row.length) (hz : z = f row[j]) : IntsAre (ys ++ [.int z t]) ((row.take (j + 1)).map f) := by
  rw [List.take_add_one, List.getElem?_eq_getElem hj, List.map_append]
  exact h.append (by rw [hz]; exact .cons _ _ .nil)
theorem law_true (l : OpenLaw) (args : List WData) : l.row.claim.post args (.bool true) args = true := by
  refine postW_of rfl (X := true) ?_ rfl
  show WTm.value [] (.eq .res (.lit (.bool true))) _ = _
  wtm_val
theorem law_none (l : OpenLaw) (args : List WData) (c : ExcName) : l.row.claim.raises args c = false := rfl
set_option maxRecDepth 100000 in
set_option maxHeartbeats 8000000 in
theorem t0 : PySem.Challenge.rw_wn0055_01.Holds := Mine.hd (by
  k_go0
  all_goals try k_fold
  (try ((with_reducible show wpAny _ _ (execs _ _) _ _ _); (try dsimp only); k_fold))
  k_steps
  (rename Shared => s1)
  (rename News _ _ _ _ => N1)
  (rename Fr _ _ _ _ => F1)
  (rename (Mine.hk.heap_1 _).In _ => X1)
  obtain ⟨ww, e⟩ := nameW X1
  subst e
  (rename IntsAre _ (List.take 12 _) => hI12)
  (rename (84 : Nat) < _ => hl0)
  (rename ¬ (_ < _) => h63)
  obtain ⟨ns, e⟩ := nameN63 h63
  subst e
  first | (refine e0a4 (nameI hI12) ?_; intro ws _ e _) | (refine e1a3 (nameI hI12) ?_; intro ws _ e _) | (refine e2a2 (nameI hI12) ?_; intro ws _ e _) | (refine e3a1 (nameI hI12) ?_; intro ws _ e _) | obtain ⟨ws, _, e, _⟩ := nameI hI12
  subst e
  have hIl := hI12.length
  rw [List.length_take] at hIl
  first | (refine e0a6 (nameL F1) ?_; intro Ls gh hp1 e1 e2 e3) | (refine e1a5 (nameL F1) ?_; intro Ls gh hp1 e1 e2 e3) | (refine e2a4 (nameL F1) ?_; intro Ls gh hp1 e1 e2 e3) | (refine e3a3 (nameL F1) ?_; intro Ls gh hp1 e1 e2 e3) | (refine e4a2 (nameL F1) ?_; intro Ls gh hp1 e1 e2 e3) | (refine e5a1 (nameL F1) ?_; intro Ls gh hp1 e1 e2 e3) | obtain ⟨Ls, gh, hp1, e1, e2, e3⟩ := nameL F1
  first | (refine e0a4 (name34 N1) ?_; intro oc2 oc1 e1 e2) | (refine e1a3 (name34 N1) ?_; intro oc2 oc1 e1 e2) | (refine e2a2 (name34 N1) ?_; intro oc2 oc1 e1 e2) | (refine e3a1 (name34 N1) ?_; intro oc2 oc1 e1 e2) | obtain ⟨oc2, oc1, e1, e2⟩ := name34 N1
  subst e1 e2
  (rename Obj.data oc2 = _ => hoc2)
  replace hoc2 : oc2.data = .cell none := hoc2
  (rename Obj.data oc1 = _ => hoc1)
  replace hoc1 : oc1.data = .cell none := hoc1
  refine Small.go ?_
  intro gSm hSm
  obtain ⟨bs1, e4⟩ := nameN N1
  obtain ⟨D1, e5⟩ := name1a N1
  refine hSm ?_
  clear hSm gSm
  subst e5
  rw [← e4] at N1
  have hD1 : (D1, PySem.W.listOf ws.toArray 0) ∈ bs1 := by rw [e4]; exact .head _
  refine Hold.intro ?_
  refine comp_list (J := fun i ys nw => Sub bs1 nw ∧ IntsAre ys (((ns.take 12).take i).map cellF)) (by rfl) F1 N1 hD1 (by decide) (by rfl) (by rfl) (by (first | lia | omega)) ⟨Sub.refl _, .nil⟩ ?_ ?_ ?_
  · intro i ys nw nw' zq1 hk
    (try dsimp only)
    (try k_fold)
    obtain ⟨hs, hy⟩ := zq1
    exact ⟨hs.kept hk, hy⟩
  · clear N1 F1
    intro i v I oI C oC D m₂ ys nw h tk E' s' zq2 hv hyl hcl hns hm hD1' zq3 F₂ N₂ off hne hoff
    (try dsimp only)
    (try k_fold)
    first | (refine e0a3 (zq2) ?_; intro g tk' er2; (try clear zq2); subst er2) | (refine e1a2 (zq2) ?_; intro g tk' er2; (try clear zq2); subst er2) | (refine e2a1 (zq2) ?_; intro g tk' er2; (try clear zq2); subst er2) | obtain ⟨g, tk', rfl⟩ := zq2
    obtain ⟨hs, hy⟩ := zq3
    first | (refine e0a3 (ints_get hI12 i v hv) ?_; intro hi t er2; subst er2) | (refine e1a2 (ints_get hI12 i v hv) ?_; intro hi t er2; subst er2) | (refine e2a1 (ints_get hI12 i v hv) ?_; intro hi t er2; subst er2) | obtain ⟨hi, t, rfl⟩ := ints_get hI12 i v hv
    (try ((with_reducible show wpAny _ _ (execs _ _) _ _ _); (try dsimp only); k_fold))
    k_steps
    refine Hold.intro ?_
    (try (k_unfold; (try dsimp only)))
    unfold ElEnd
    refine ⟨_, _, _, rfl, by k_asm, by k_asm, .head _, .tail _ (.head _), .tail _ (.tail _ (.head _)), .tail _ (.tail _ (.tail _ hD1')), fun p hp => .tail _ (.tail _ (.tail _ (hs p hp))), ?_⟩
    exact intsA_take hy hi rfl
  · clear N1 F1
    intro C D oC m₂ ys nw h tk s' zq4 hyl zq5 _ hns F₂ N₂ off hCD hoff
    (try dsimp only)
    (try k_fold)
    refine Small.go ?_
    intro gSm hSm
    obtain ⟨g, rfl⟩ := zq4
    obtain ⟨hs, hy⟩ := zq5
    refine hSm ?_
    clear hSm gSm
    refine post_E F₂ N₂ hns off hCD fun h' F₃ N₃ => ?_
    rw [List.take_of_length_le (by rw [List.length_take]; (first | lia | omega))] at hy
    clear F₂ N₂
    rw [e4] at hs
    have h7 := hs _ (.tail _ (.head _))
    have hc2 := hs _ (.tail _ (.tail _ (.head _)))
    have hc1 := hs _ (.tail _ (.tail _ (.tail _ (.head _))))
    have h84 := hs _ (.tail _ (.tail _ (.tail _ (.tail _ (.head _)))))
    have hyl2 : ys.length ≤ 12 := by (first | lia | omega)
    have eL : ∀ zs : List Value, LCg.lst zs = PySem.W.listOf zs.toArray zs.length := fun zs => rfl
    rw [eL] at N₃
    (try ((with_reducible show wpAny _ _ (execs _ _) _ _ _); (try dsimp only); k_fold))
    k_steps
    refine Hold.intro ?_
    (k_dflt (refine' cat_L ?Fq1 ?Nq1 ?aq1 ?bq1 ?yq1 ?zq1 ?_; (case Fq1 => k_asm); (case Nq1 => k_asm); (case aq1 => k_mem); (case bq1 => k_mem); (case yq1 => first | decide | (simp only [List.length_cons, List.length_nil] at *; (first | lia | omega))); (case zq1 => first | decide | (first | lia | omega))); intro uD' uh' uF' uN' ul1; (try k_lt ul1); (try k_sweep))
    k_steps
    (rename News _ _ _ _ => N4)
    (rename Fr _ _ _ _ => F4)
    obtain ⟨D2, e⟩ := name1a N4
    subst e
    first | (refine e0a3 (cellsL N4 hy) ?_; intro cvs N5 hcv) | (refine e1a2 (cellsL N4 hy) ?_; intro cvs N5 hcv) | (refine e2a1 (cellsL N4 hy) ?_; intro cvs N5 hcv) | obtain ⟨cvs, N5, hcv⟩ := cellsL N4 hy
    clear N4
    obtain ⟨bs2, e6⟩ := nameN N5
    rw [← e6] at N5
    (rename _ ∧ AllLt D2 _ => lD2)
    have hlD1 := ltOf lD2.2 _ hc1
    have hlD2 := ltOf lD2.2 _ hc2
    have hcl := hcv.length
    have hcl2 : (cellsOf ns).length ≤ 19 := by unfold cellsOf; rw [List.length_append, List.length_map, List.length_take]; simp; (first | lia | omega)
    have hD2 : (D2, PySem.W.listOf cvs.toArray 0) ∈ bs2 := by rw [e6]; exact .head _
    have sub2 : Sub nw bs2 := fun p hp => by rw [e6]; exact .tail _ (.tail _ hp)
    refine Hold.intro ?_
    refine comp_enum (J := fun i ys nw => Sub bs2 nw ∧ Its nw ys ((itemsFrom 0 (cellsOf ns)).take i)) (by rfl) F4 N5 hD2 (by decide) (by rfl) (by rfl) (by rfl) (by decide) (by (first | lia | omega)) ⟨Sub.refl _, .nil⟩ ?_ ?_ ?_
    · intro i ys nw nw' zq6 hk
      (try dsimp only)
      (try k_fold)
      obtain ⟨hs, hy⟩ := zq6
      exact ⟨hs.kept hk, hy.mono fun _ _ _ _ _ hq => hk _ hq (.inl ⟨rfl, _, _, rfl⟩)⟩
    · clear N5 F4
      intro i x t e it oe oi C oC D m₂ ys nw h tk E' s' zq7 hx hyl hns ha hb hD2' zq8 F₂ N₂
      first | (refine e0a3 (zq7) ?_; intro g tk' er2; (try clear zq7); subst er2) | (refine e1a2 (zq7) ?_; intro g tk' er2; (try clear zq7); subst er2) | (refine e2a1 (zq7) ?_; intro g tk' er2; (try clear zq7); subst er2) | obtain ⟨g, tk', rfl⟩ := zq7
      obtain ⟨hs, hy⟩ := zq8
      first | (refine e0a3 (ints_get hcv i x hx) ?_; intro hi tx er2; subst er2) | (refine e1a2 (ints_get hcv i x hx) ?_; intro hi tx er2; subst er2) | (refine e2a1 (ints_get hcv i x hx) ?_; intro hi tx er2; subst er2) | obtain ⟨hi, tx, rfl⟩ := ints_get hcv i x hx
      k_steps
      refine Hold.intro ?_
      (try (k_unfold; (try dsimp only)))
      unfold ElEnd
      refine ⟨_, _, _, rfl, by k_asm, by k_asm, .tail _ (.tail _ (.tail _ (.head _))), .tail _ (.tail _ (.tail _ (.head _))), .tail _ (.tail _ (.tail _ (.tail _ (.head _)))), .tail _ (.head _), .tail _ (.tail _ (.head _)), .tail _ (.tail _ (.tail _ (.tail _ (.tail _ hD2')))), fun p hp => .tail _ (.tail _ (.tail _ (.tail _ (.tail _ (hs p hp))))), ?_⟩
      exact its_take (hy.mono fun _ _ _ _ _ hq => .tail _ (.tail _ (.tail _ (.tail _ (.tail _ hq))))) (by rw [itemsFrom_get 0 _ _ hi, Nat.zero_add]; rfl) (.head _)
    · clear N5 F4
      intro C D oC m₂ iv nw6 h tk s' zq9 hyl3 zq10 _ hns F₂ N₂ off hCD hoff
      (try dsimp only)
      (try k_fold)
      refine Small.go ?_
      intro gSm hSm
      obtain ⟨g, rfl⟩ := zq9
      obtain ⟨hs3, hy3⟩ := zq10
      refine hSm ?_
      clear hSm gSm
      refine post_E F₂ N₂ hns off hCD fun h' F₃ N₃ => ?_
      rw [List.take_of_length_le (by rw [itemsFrom_length]; (first | lia | omega))] at hy3
      clear F₂ N₂
      first | (refine e0a6 (pull2 N₃ (.tail _ (hs3 _ (sub2 _ hc1))) (.tail _ (hs3 _ (sub2 _ hc2))) (Nat.ne_of_lt (Nat.lt_succ_self _))) ?_; intro r6 N6 all1 all2 tr6 _) | (refine e1a5 (pull2 N₃ (.tail _ (hs3 _ (sub2 _ hc1))) (.tail _ (hs3 _ (sub2 _ hc2))) (Nat.ne_of_lt (Nat.lt_succ_self _))) ?_; intro r6 N6 all1 all2 tr6 _) | (refine e2a4 (pull2 N₃ (.tail _ (hs3 _ (sub2 _ hc1))) (.tail _ (hs3 _ (sub2 _ hc2))) (Nat.ne_of_lt (Nat.lt_succ_self _))) ?_; intro r6 N6 all1 all2 tr6 _) | (refine e3a3 (pull2 N₃ (.tail _ (hs3 _ (sub2 _ hc1))) (.tail _ (hs3 _ (sub2 _ hc2))) (Nat.ne_of_lt (Nat.lt_succ_self _))) ?_; intro r6 N6 all1 all2 tr6 _) | (refine e4a2 (pull2 N₃ (.tail _ (hs3 _ (sub2 _ hc1))) (.tail _ (hs3 _ (sub2 _ hc2))) (Nat.ne_of_lt (Nat.lt_succ_self _))) ?_; intro r6 N6 all1 all2 tr6 _) | (refine e5a1 (pull2 N₃ (.tail _ (hs3 _ (sub2 _ hc1))) (.tail _ (hs3 _ (sub2 _ hc2))) (Nat.ne_of_lt (Nat.lt_succ_self _))) ?_; intro r6 N6 all1 all2 tr6 _) | obtain ⟨r6, N6, all1, all2, tr6, _⟩ := pull2 N₃ (.tail _ (hs3 _ (sub2 _ hc1))) (.tail _ (hs3 _ (sub2 _ hc2))) (Nat.ne_of_lt (Nat.lt_succ_self _))
      have offs : ∀ p ∈ (D, LCg.lst iv) :: nw6, (∃ xs n, p.2.data = .seq xs n) → p ∈ r6 := fun p hp ⟨xs, n, e⟩ => tr6 p hp (apart2 (o := p.2) N₃ hp (.tail _ (hs3 _ (sub2 _ hc1))) fun e' => by rw [e', hoc1] at e; cases e) (apart2 (o := p.2) N₃ hp (.tail _ (hs3 _ (sub2 _ hc2))) fun e' => by rw [e', hoc2] at e; cases e)
      have hItr : Its r6 iv (itemsFrom 0 (cellsOf ns)) := hy3.mono fun _ _ _ _ _ hq => offs _ (.tail _ hq) ⟨_, _, rfl⟩
      have hDir : (D, PySem.W.listOf iv.toArray iv.length) ∈ r6 := offs _ (.head _) ⟨_, _, rfl⟩
      clear N₃
      (try ((with_reducible show wpAny _ _ (execs _ _) _ _ _); (try dsimp only); k_fold))
      k_steps
      (rename News _ _ _ _ => N7)
      (rename Fr _ _ _ _ => F7)
      obtain ⟨oi, e⟩ := name1 N7
      subst e
      (rename Obj.data oi = _ => hoi)
      obtain ⟨bs7, e7⟩ := nameN N7
      have hD2b : (D2, PySem.W.listOf cvs.toArray 0) ∈ bs7 := by
        rw [e7]
        exact .tail _ (.tail _ (tr6 _ (.tail _ (hs3 _ hD2)) (Ne.symm (Nat.ne_of_lt hlD1)) (Ne.symm (Nat.ne_of_lt hlD2))))
      rw [← e7] at N7
      have h84b : (84, tabObj #[]) ∈ bs7 := by
        rw [e7]
        exact .tail _ (.tail _ (tr6 _ (.tail _ (hs3 _ (sub2 _ h84))) (Nat.ne_of_lt (Nat.lt_succ_of_lt hl0)) (Nat.ne_of_lt (Nat.lt_succ_of_lt (Nat.lt_succ_of_lt hl0)))))
      have off84 : ∀ p ∈ bs7, (∃ xs n, p.2.data = .seq xs n) → p.1 ≠ 84 := fun p hp ⟨xs, n, e⟩ => apart2 (o := p.2) N7 hp h84b fun e' => by rw [e'] at e; simp [tabObj] at e
      have hIt7 : Its bs7 iv (itemsFrom 0 (cellsOf ns)) := hItr.mono fun _ _ _ _ _ hq => by rw [e7]; exact .tail _ (.tail _ hq)
      have hDi7 : (D, PySem.W.listOf iv.toArray iv.length) ∈ bs7 := by rw [e7]; exact .tail _ (.tail _ hDir)
      refine Hold.intro ?_
      refine comp_list (J := fun i ys nw => Sub bs7 nw ∧ StrsAre ys (((cellsOf ns).take i).map wOf)) (by rfl) F7 N7 hD2b (by decide) (by rfl) (by rfl) (by (first | lia | omega)) ⟨Sub.refl _, .nil⟩ ?_ ?_ ?_
      · intro i ys nw nw' zq11 hk
        (try dsimp only)
        (try k_fold)
        obtain ⟨hs, hy⟩ := zq11
        exact ⟨hs.kept hk, hy⟩
      · clear N7 F7
        intro i v I oI C oC D7 m₂ ys nw h tk E' s' zq12 hv hyl hcl hns hm hD2' zq13 F₂ N₂ off hne hoff
        (try dsimp only)
        (try k_fold)
        first | (refine e0a3 (zq12) ?_; intro g tk' er2; (try clear zq12); subst er2) | (refine e1a2 (zq12) ?_; intro g tk' er2; (try clear zq12); subst er2) | (refine e2a1 (zq12) ?_; intro g tk' er2; (try clear zq12); subst er2) | obtain ⟨g, tk', rfl⟩ := zq12
        obtain ⟨hs, hy⟩ := zq13
        first | (refine e0a3 (ints_get hcv i v hv) ?_; intro hi t er2; subst er2) | (refine e1a2 (ints_get hcv i v hv) ?_; intro hi t er2; subst er2) | (refine e2a1 (ints_get hcv i v hv) ?_; intro hi t er2; subst er2) | obtain ⟨hi, t, rfl⟩ := ints_get hcv i v hv
        have hcb := cells_bnd _ (List.getElem_mem hi)
        first | (refine e0a4 (cell_args hcb.1 hcb.2) ?_; intro b1 b2 b3 b4) | (refine e1a3 (cell_args hcb.1 hcb.2) ?_; intro b1 b2 b3 b4) | (refine e2a2 (cell_args hcb.1 hcb.2) ?_; intro b1 b2 b3 b4) | (refine e3a1 (cell_args hcb.1 hcb.2) ?_; intro b1 b2 b3 b4) | obtain ⟨b1, b2, b3, b4⟩ := cell_args hcb.1 hcb.2
        (try ((with_reducible show wpAny _ _ (execs _ _) _ _ _); (try dsimp only); k_fold))
        k_steps
        refine Hold.intro ?_
        (k_dflt (refine' call_vret (f := 94) (C := c_word (by assumption) (by assumption) (by assumption) (by assumption)) (ret := ?_)); (intro uk9 un9 uh9 utk9 uhs9 uF9 uN9); (try dsimp only); (try k_sweep))
        k_steps
        refine Hold.intro ?_
        (try (k_unfold; (try dsimp only)))
        unfold ElEnd
        (rename Sub ((I, oI) :: _) _ => hs9)
        refine ⟨_, _, _, rfl, by k_asm, by k_asm, hs9 _ (.head _), hs9 _ (.tail _ (.head _)), hs9 _ (.tail _ (.tail _ (.head _))), hs9 _ (.tail _ (.tail _ (.tail _ hD2'))), fun p hp => hs9 _ (.tail _ (.tail _ (.tail _ (hs p hp)))), ?_⟩
        exact strsA_take hy hi rfl
      · clear N7 F7
        intro C7 D7 oC7 m₂ tv nw7 h tk s' zq14 hyl7 zq15 _ hns F₂ N₂ off hCD hoff
        (try dsimp only)
        (try k_fold)
        refine Small.go ?_
        intro gSm hSm
        obtain ⟨g, rfl⟩ := zq14
        obtain ⟨hs7, hy7⟩ := zq15
        refine hSm ?_
        clear hSm gSm
        refine post_E F₂ N₂ hns off hCD fun h' F₃ N₃ => ?_
        rw [List.take_of_length_le (by (first | lia | omega))] at hy7
        clear F₂ N₂
        (try ((with_reducible show wpAny _ _ (execs _ _) _ _ _); (try dsimp only); k_fold))
        k_steps
        refine Hold.intro ?_
        have hwt := text_weight (cells_bnd (ns := ns))
        refine join_listW (ys := (cellsOf ns).map wOf) (News.isList N₃ (.head _)) hy7 (by decide) (by rw [List.length_map]; (first | lia | omega)) ?_
        intro t' k
        have htl : (Txt.join (Str.ofString "") ((cellsOf ns).map wOf)).length ≤ 1000 := by rw [join_nil, cat_len]; (first | lia | omega)
        have h84' := hs7 _ h84b
        (try ((with_reducible show wpAny _ _ (execs _ _) _ _ _); (try dsimp only); k_fold))
        k_steps
        refine Hold.intro ?_
        (k_dflt (refine' wpAny_call (CtrH.use (f := 89) ?Bq3 ?Fq3 ?Xq3 ?Nq3 ?Tq3 ?hfq3 ?hkq3 ?hdq3 ?huq3 ?hHq3 (c_lexer ?q0q3 ?q1q3) ?_); (case Bq3 => k_asm); (case Fq3 => k_asm); (case Xq3 => k_asm); (case Nq3 => k_asm); (case Tq3 => k_asm); (case hfq3 => first | exact rfl | assumption); (case hkq3 => first | exact rfl | assumption); (case hHq3 => assumption); (case q0q3 => assumption); (case q1q3 => k_mem); (case hdq3 => ktr_room); (case huq3 => ktr_units)); (intro ur9 un9 uh9 utk9 uP9 uF9 uN9; obtain ⟨uX9, usg9, unP9, ue1, uP9⟩ := uP9; subst ue1; refine Hold.out ?_); (try dsimp only); (try k_sweep))
        k_steps
        (rename News _ _ _ _ => N9)
        obtain ⟨n9, e⟩ := nameN N9
        subst e
        (rename (∃ vs, _) ∧ _ => P9)
        refine Small.go ?_
        intro gSm hSm
        obtain ⟨xoc, xocl, HL, hPS, hsg, hXP, ⟨ps84, hT84⟩, hfr⟩ := P9
        refine hSm ?_
        clear hSm gSm
        first | (refine e0a4 (nameX HL) ?_; intro X sg e1 e2) | (refine e1a3 (nameX HL) ?_; intro X sg e1 e2) | (refine e2a2 (nameX HL) ?_; intro X sg e1 e2) | (refine e3a1 (nameX HL) ?_; intro X sg e1 e2) | obtain ⟨X, sg, e1, e2⟩ := nameX HL
        subst e1 e2
        have hPc : Piece ww _ _ _ _ X := ⟨xoc, xocl, hPS⟩
        have hLF : LexF ww X 1 (restS (cellsOf ns)) n9 := ⟨sg, HL, by rw [← restS_text]; exact hsg⟩
        have fr9 : ∀ {q : Addr × Obj}, q ∈ bs7 → q.1 ≠ 84 → q ∈ n9 := fun {q} hq hne => hfr q (.tail _ (hs7 q hq)) hne
        have hcb2 : (s1.heap.objs.size + 1 + 1, oc2) ∈ bs7 := by rw [e7]; exact .tail _ (.head _)
        have hcb1 : (s1.heap.objs.size + 1, oi) ∈ bs7 := by rw [e7]; exact .head _
        have h92 := fr9 hcb2 (Ne.symm (Nat.ne_of_lt (Nat.lt_succ_of_lt (Nat.lt_succ_of_lt hl0))))
        have h91 := fr9 hcb1 (Ne.symm (Nat.ne_of_lt (Nat.lt_succ_of_lt hl0)))
        first | (refine e0a5 (pull N9 h92) ?_; intro r8 N8 k1 k2 k3) | (refine e1a4 (pull N9 h92) ?_; intro r8 N8 k1 k2 k3) | (refine e2a3 (pull N9 h92) ?_; intro r8 N8 k1 k2 k3) | (refine e3a2 (pull N9 h92) ?_; intro r8 N8 k1 k2 k3) | (refine e4a1 (pull N9 h92) ?_; intro r8 N8 k1 k2 k3) | obtain ⟨r8, N8, k1, k2, k3⟩ := pull N9 h92
        have offc : ∀ p ∈ n9, p.2.data ≠ .cell none → p ∈ r8 := fun p hp hne => k2 p hp (apart2 (o := p.2) N9 hp h92 (fun e => hne (by rw [e]; exact hoc2)))
        have hLF8 : LexF ww X 1 (restS (cellsOf ns)) r8 := ⟨sg, HL.off xoc xocl offc, by rw [← restS_text]; exact hsg⟩
        have hXP8 := offc _ hXP (by simp)
        have h81 := offc _ h91 (by rw [hoi]; simp)
        have hT8 : (84, tabObj ps84) ∈ r8 := offc _ hT84 (by simp)
        clear N9 HL
        refine Hold.intro ?_
        (try ((with_reducible show wpAny _ _ (execs _ _) _ _ _); (try dsimp only); k_fold))
        k_steps
        refine Hold.intro ?_
        refine' comp_AL ?hyL ?hs1 ?hs2 ?hs3 ?hs4 ?_
        case hyL => k_dflt (exact rfl)
        case hs1 => with_unfolding_all rfl
        case hs2 => with_unfolding_all rfl
        case hs3 => rfl
        case hs4 => decide
        (try ((with_reducible show wpAny _ _ (execs _ _) _ _ _); (try dsimp only); k_fold))
        k_steps
        (rename News _ _ _ _ => N10)
        (rename Fr _ _ _ _ => F10)
        obtain ⟨ol, e⟩ := name1 N10
        subst e
        (rename Obj.data ol = _ => hol)
        obtain ⟨b10, e10⟩ := nameN N10
        rw [← e10] at N10
        have fr10 : ∀ {q : Addr × Obj}, q ∈ bs7 → q.1 ≠ 84 → q.2.data ≠ .cell none → q ∈ b10 := fun hq h1 h2 => by rw [e10]; exact .tail _ (offc _ (fr9 hq h1) h2)
        have up10 : ∀ q ∈ r8, q ∈ b10 := fun q hq => by rw [e10]; exact .tail _ hq
        have hD10 : (D2, PySem.W.listOf cvs.toArray 0) ∈ b10 := fr10 hD2b (fun e => Nat.lt_irrefl _ (e ▸ Nat.lt_of_lt_of_le hl0 (Nat.le_of_lt (Nat.lt_of_succ_lt hlD1)))) (by simp)
        have hLF10 : LexF ww X 1 (restS (cellsOf ns)) b10 := hLF8.mono up10
        have hXP10 := up10 _ hXP8
        have hl10 : (s1.heap.objs.size + 1 + 1, ol) ∈ b10 := by rw [e10]; exact .head _
        have hne10 := restS_ne ns
        have hXPG : X.P ≠ X.G := lex_P N10 hLF10 hXP10 hne10
        have hXPd : X.P ≠ X.d := lex_Pd N10 hLF10 hXP10
        have hT10 := up10 _ hT8
        have hTd : 84 ≠ X.d := by
          first | (refine e0a3 (hLF10) ?_; intro sgz hz1 _; (try clear hLF10)) | (refine e1a2 (hLF10) ?_; intro sgz hz1 _; (try clear hLF10)) | (refine e2a1 (hLF10) ?_; intro sgz hz1 _; (try clear hLF10)) | obtain ⟨sgz, hz1, _⟩ := hLF10
          obtain ⟨tz, hz2⟩ := hz1.hd
          exact apart N10 hT10 hz2 (by simp)
        have hTG : 84 ≠ X.G := by
          first | (refine e0a3 (hLF10) ?_; intro sgz hz1 _; (try clear hLF10)) | (refine e1a2 (hLF10) ?_; intro sgz hz1 _; (try clear hLF10)) | (refine e2a1 (hLF10) ?_; intro sgz hz1 _; (try clear hLF10)) | obtain ⟨sgz, hz1, _⟩ := hLF10
          obtain ⟨nz, hz3⟩ := hz1.hG
          exact apart N10 hT10 hz3 (by simp)
        have hD2Xd : D2 ≠ X.d := lex_Pd N10 hLF10 hD10
        have hD2XG : D2 ≠ X.G := lex_ints N10 hLF10 hD10 hcv hne10
        have hcd1 : s1.heap.objs.size + 1 + 1 ≠ X.d := (lex_cell N10 hLF10 hl10 hol).1
        have hcd2 : s1.heap.objs.size + 1 + 1 ≠ X.G := (lex_cell N10 hLF10 hl10 hol).2
        have hIt10 : Its b10 iv (itemsFrom 0 (cellsOf ns)) := hIt7.mono fun _ _ _ _ _ hq => fr10 hq (off84 _ hq ⟨_, _, rfl⟩) (by simp)
        have hDi10 : (D, PySem.W.listOf iv.toArray iv.length) ∈ b10 := fr10 hDi7 (off84 _ hDi7 ⟨_, _, rfl⟩) (by simp)
        have hDXd := lex_Pd N10 hLF10 hDi10
        have hDXG := lex_its N10 hLF10 hDi10 hIt10 hne10
        have hTX : ∀ t v p k u, (t, pairO v p k u) ∈ b10 → t ≠ X.d ∧ t ≠ X.G := by
          first | (refine e0a3 (hLF10) ?_; intro sgz hz1 _; (try clear hLF10)) | (refine e1a2 (hLF10) ?_; intro sgz hz1 _; (try clear hLF10)) | (refine e2a1 (hLF10) ?_; intro sgz hz1 _; (try clear hLF10)) | obtain ⟨sgz, hz1, _⟩ := hLF10
          obtain ⟨tz, hz2⟩ := hz1.hd
          obtain ⟨nz, hz3⟩ := hz1.hG
          exact fun t v p k u hm => ⟨apart N10 hm hz2 (by simp), apart N10 hm hz3 (by simp)⟩
        have hXxG : X.x ≠ X.G := by
          first | (refine e0a3 (hLF10) ?_; intro sgz hz1 _; (try clear hLF10)) | (refine e1a2 (hLF10) ?_; intro sgz hz1 _; (try clear hLF10)) | (refine e2a1 (hLF10) ?_; intro sgz hz1 _; (try clear hLF10)) | obtain ⟨sgz, hz1, _⟩ := hLF10
          obtain ⟨nz, hz3⟩ := hz1.hG
          exact apart2 N10 hz1.hx hz3 fun e => by cases e
        have hci1 := lex_cell N10 hLF10 (up10 _ h81) hoi
        refine Hold.intro ?_
        refine comp_list (J := fun i ys nw => (∀ q ∈ b10, q.1 ≠ X.d → q.1 ≠ X.G → q ∈ nw) ∧ LexF ww X (1 + lnTo ((cellsOf ns).take i)) (restS ((cellsOf ns).drop i)) nw ∧ StrsAre ys (((cellsOf ns).take i).map fun c => numT (c.fmod 41 - 20))) (by rfl) F10 N10 hD10 (by decide) (by rfl) (by rfl) (by (first | lia | omega)) ⟨fun q hq _ _ => hq, hLF10, .nil⟩ ?_ ?_ ?_
        · intro i ys nw nw' zq16 hk
          (try dsimp only)
          (try k_fold)
          first | (refine e0a3 (zq16) ?_; intro hs hl hy; (try clear zq16)) | (refine e1a2 (zq16) ?_; intro hs hl hy; (try clear zq16)) | (refine e2a1 (zq16) ?_; intro hs hl hy; (try clear zq16)) | obtain ⟨hs, hl, hy⟩ := zq16
          exact ⟨fun q hq a b => hk q (hs q hq a b) (.inr ⟨q, hq, rfl⟩), hLF10.kept hl hk, hy⟩
        · clear N10 F10
          intro i v I oI C oC D8 m₂ ys nw h tk E' s' zq17 hv hyl hcl hns hm hD2' zq18 F₂ N₂ off hne hoff
          (try dsimp only)
          (try k_fold)
          first | (refine e0a3 (zq17) ?_; intro g tk' er2; (try clear zq17); subst er2) | (refine e1a2 (zq17) ?_; intro g tk' er2; (try clear zq17); subst er2) | (refine e2a1 (zq17) ?_; intro g tk' er2; (try clear zq17); subst er2) | obtain ⟨g, tk', rfl⟩ := zq17
          first | (refine e0a3 (zq18) ?_; intro hs hl hy; (try clear zq18)) | (refine e1a2 (zq18) ?_; intro hs hl hy; (try clear zq18)) | (refine e2a1 (zq18) ?_; intro hs hl hy; (try clear zq18)) | obtain ⟨hs, hl, hy⟩ := zq18
          first | (refine e0a3 (ints_get hcv i v hv) ?_; intro hi t er2; subst er2) | (refine e1a2 (ints_get hcv i v hv) ?_; intro hi t er2; subst er2) | (refine e2a1 (ints_get hcv i v hv) ?_; intro hi t er2; subst er2) | obtain ⟨hi, t, rfl⟩ := ints_get hcv i v hv
          have hcb := cells_bnd _ (List.getElem_mem hi)
          have hb1 := hcb.1
          have hb2 := hcb.2
          have hXd : ∃ o, (X.d, o) ∈ b10 ∧ o.cls = .type "dict" := let ⟨_, hl0, _⟩ := hLF10; let ⟨_, h⟩ := hl0.hd; ⟨_, h, rfl⟩
          have hXG : ∃ o, (X.G, o) ∈ b10 ∧ o.cls = .type "list" := let ⟨_, hl0, _⟩ := hLF10; let ⟨_, h⟩ := hl0.hG; ⟨_, h, rfl⟩
          first | (refine e0a3 (hXd) ?_; intro oXd mXd cXd; (try clear hXd)) | (refine e1a2 (hXd) ?_; intro oXd mXd cXd; (try clear hXd)) | (refine e2a1 (hXd) ?_; intro oXd mXd cXd; (try clear hXd)) | obtain ⟨oXd, mXd, cXd⟩ := hXd
          first | (refine e0a3 (hXG) ?_; intro oXG mXG cXG; (try clear hXG)) | (refine e1a2 (hXG) ?_; intro oXG mXG cXG; (try clear hXG)) | (refine e2a1 (hXG) ?_; intro oXG mXG cXG; (try clear hXG)) | obtain ⟨oXG, mXG, cXG⟩ := hXG
          first | (refine e0a3 (hoff _ mXd) ?_; intro hdI1 hdC1 hdD1) | (refine e1a2 (hoff _ mXd) ?_; intro hdI1 hdC1 hdD1) | (refine e2a1 (hoff _ mXd) ?_; intro hdI1 hdC1 hdD1) | obtain ⟨hdI1, hdC1, hdD1⟩ := hoff _ mXd
          first | (refine e0a3 (hoff _ mXG) ?_; intro hdI2 hdC2 hdD2) | (refine e1a2 (hoff _ mXG) ?_; intro hdI2 hdC2 hdD2) | (refine e2a1 (hoff _ mXG) ?_; intro hdI2 hdC2 hdD2) | obtain ⟨hdI2, hdC2, hdD2⟩ := hoff _ mXG
          have hDX1 : D2 ≠ X.d := hD2Xd
          have hDX2 : D2 ≠ X.G := hD2XG
          have hl8 : (s1.heap.objs.size + 1 + 1, ol) ∈ nw := hs _ hl10 hcd1 hcd2
          have hxp8 := hs _ hXP10 hXPd hXPG
          have hdrop : (cellsOf ns).drop i = (cellsOf ns)[i] :: (cellsOf ns).drop (i + 1) := List.drop_eq_getElem_cons hi
          rw [hdrop, restS_cons] at hl
          have hlen : (signs (wOf (cellsOf ns)[i]) ++ restS ((cellsOf ns).drop (i + 1))).length ≤ 600 := by
            rw [← restS_cons, ← hdrop]
            have := restS_len (l := (cellsOf ns).drop i) fun d hd => cells_bnd d (List.mem_of_mem_drop hd)
            have := List.length_drop (i := i) (l := cellsOf ns)
            (first | lia | omega)
          have hlx : (X.x, instObj 52 X.d) ∈ nw := let ⟨_, h, _⟩ := hl; h.hx
          obtain ⟨td, hld⟩ : ∃ td, (X.d, lexD ww (1 + lnTo ((cellsOf ns).take i)) td (.ref X.xs) X.P X.a0 X.a1 X.a2 X.a3 X.a4) ∈ nw := let ⟨_, h, _⟩ := hl; h.hd
          have hlL : LexF ww X (1 + lnTo ((cellsOf ns).take i)) (signs (wOf (cellsOf ns)[i]) ++ restS ((cellsOf ns).drop (i + 1))) ((I, oI) :: (C, oC) :: (D8, LCg.lst ys) :: nw) := hl.mono fun p hp => .tail _ (.tail _ (.tail _ hp))
          (try ((with_reducible show wpAny _ _ (execs _ _) _ _ _); (try dsimp only); k_fold))
          k_steps
          refine Hold.intro ?_
          (k_dflt (refine' call_vret (f := 42) (C := c_tok (by assumption) (by assumption) (by assumption) (by k_mem) (by assumption) (by assumption)) (ret := ?_)); (intro uk9 un9 uh9 utk9 uP9 uF9 uN9; obtain ⟨uHL9, uhk9⟩ := uP9); (try dsimp only); (try k_sweep))
          k_steps
          refine Hold.intro ?_
          (try (k_unfold; (try dsimp only)))
          unfold ElEnd
          (rename ∀ p ∈ (I, oI) :: _, _ → _ → p ∈ _ => hk9)
          (rename LexF ww X _ (restS _) _ => hl9)
          refine ⟨_, _, _, rfl, by k_asm, by k_asm, hk9 _ (.head _) (Ne.symm hdI1) (Ne.symm hdI2), hk9 _ (.tail _ (.head _)) (Ne.symm hdC1) (Ne.symm hdC2), hk9 _ (.tail _ (.tail _ (.head _))) (Ne.symm hdD1) (Ne.symm hdD2), hk9 _ (.tail _ (.tail _ (.tail _ hD2'))) hDX1 hDX2, ⟨fun q hq a b => hk9 _ (.tail _ (.tail _ (.tail _ (hs q hq a b)))) a b, ?_, ?_⟩⟩
          · rw [lnTo_take hi, ← Int.add_assoc]
            exact hl9
          · exact strsA_take hy hi rfl
        · clear N10 F10
          intro C D9 oC m₂ wv nw11 h tk s' zq19 hyl11 zq20 _ hns F₂ N₂ off hCD hoff
          (try dsimp only)
          (try k_fold)
          obtain ⟨g, rfl⟩ := zq19
          first | (refine e0a3 (zq20) ?_; intro hs11 hl11 hy11; (try clear zq20)) | (refine e1a2 (zq20) ?_; intro hs11 hl11 hy11; (try clear zq20)) | (refine e2a1 (zq20) ?_; intro hs11 hl11 hy11; (try clear zq20)) | obtain ⟨hs11, hl11, hy11⟩ := zq20
          refine' post_AK ?zL ?zy ?zp F₂ N₂ hns off hCD (fun h' F₃ N₃ => ?_)
          case zL => rfl
          case zy => rfl
          case zp => rfl
          have hcvl : cvs.length = (cellsOf ns).length := hcl
          rw [hcvl, List.take_length, List.drop_length] at hl11
          rw [hcvl, List.take_length] at hy11
          first | (refine e0a6 (pull2 N₃ (.tail _ (hs11 _ (up10 _ h81) hci1.1 hci1.2)) (.tail _ (hs11 _ hl10 hcd1 hcd2)) (Nat.ne_of_lt (Nat.lt_succ_self _))) ?_; intro r11 N11 m11 m12 m13 m14) | (refine e1a5 (pull2 N₃ (.tail _ (hs11 _ (up10 _ h81) hci1.1 hci1.2)) (.tail _ (hs11 _ hl10 hcd1 hcd2)) (Nat.ne_of_lt (Nat.lt_succ_self _))) ?_; intro r11 N11 m11 m12 m13 m14) | (refine e2a4 (pull2 N₃ (.tail _ (hs11 _ (up10 _ h81) hci1.1 hci1.2)) (.tail _ (hs11 _ hl10 hcd1 hcd2)) (Nat.ne_of_lt (Nat.lt_succ_self _))) ?_; intro r11 N11 m11 m12 m13 m14) | (refine e3a3 (pull2 N₃ (.tail _ (hs11 _ (up10 _ h81) hci1.1 hci1.2)) (.tail _ (hs11 _ hl10 hcd1 hcd2)) (Nat.ne_of_lt (Nat.lt_succ_self _))) ?_; intro r11 N11 m11 m12 m13 m14) | (refine e4a2 (pull2 N₃ (.tail _ (hs11 _ (up10 _ h81) hci1.1 hci1.2)) (.tail _ (hs11 _ hl10 hcd1 hcd2)) (Nat.ne_of_lt (Nat.lt_succ_self _))) ?_; intro r11 N11 m11 m12 m13 m14) | (refine e5a1 (pull2 N₃ (.tail _ (hs11 _ (up10 _ h81) hci1.1 hci1.2)) (.tail _ (hs11 _ hl10 hcd1 hcd2)) (Nat.ne_of_lt (Nat.lt_succ_self _))) ?_; intro r11 N11 m11 m12 m13 m14) | obtain ⟨r11, N11, m11, m12, m13, m14⟩ := pull2 N₃ (.tail _ (hs11 _ (up10 _ h81) hci1.1 hci1.2)) (.tail _ (hs11 _ hl10 hcd1 hcd2)) (Nat.ne_of_lt (Nat.lt_succ_self _))
          have hcell1 := hs11 _ (up10 _ h81) hci1.1 hci1.2
          have hcell2 := hs11 _ hl10 hcd1 hcd2
          have offs11 : ∀ p ∈ (D9, LCg.lst wv) :: nw11, (∃ xs n, p.2.data = .seq xs n) → p ∈ r11 := fun p hp ⟨xs, n, e⟩ => m13 p hp (apart2 (o := p.2) N₃ hp (.tail _ hcell1) fun e' => by rw [e', hoi] at e; cases e) (apart2 (o := p.2) N₃ hp (.tail _ hcell2) fun e' => by rw [e', hol] at e; cases e)
          have hw11 : (D9, PySem.W.listOf wv.toArray wv.length) ∈ r11 := offs11 _ (.head _) ⟨_, _, rfl⟩
          have hIt11 : Its r11 iv (itemsFrom 0 (cellsOf ns)) := hIt10.mono fun _ _ _ _ _ hq => offs11 _ (.tail _ (hs11 _ hq (hTX _ _ _ _ _ hq).1 (hTX _ _ _ _ _ hq).2)) ⟨_, _, rfl⟩
          first | (refine e0a3 (hl11) ?_; intro sg11 HL11 hsg11; (try clear hl11)) | (refine e1a2 (hl11) ?_; intro sg11 HL11 hsg11; (try clear hl11)) | (refine e2a1 (hl11) ?_; intro sg11 HL11 hsg11; (try clear hl11)) | obtain ⟨sg11, HL11, hsg11⟩ := hl11
          have HLr := HL11.offs (news' := r11) xoc xocl hDXG hXxG fun p hp h1 h2 => m13 p (.tail _ hp) (apart2 (o := p.2) N₃ (.tail _ hp) (.tail _ hcell1) fun e' => h1 (by rw [e', hoi])) (apart2 (o := p.2) N₃ (.tail _ hp) (.tail _ hcell2) fun e' => h2 (by rw [e', hol]))
          have hsg0 : sg11 = [] := by
            have := hsg11.length
            simpa [restS] using this
          have hPr := offs11 _ (.tail _ (hs11 _ hXP10 hXPd hXPG)) ⟨_, _, rfl⟩
          have hT11 : (84, tabObj ps84) ∈ r11 := m13 _ (.tail _ (hs11 _ hT10 hTd hTG)) (Nat.ne_of_lt (Nat.lt_succ_of_lt hl0)) (Nat.ne_of_lt (Nat.lt_succ_of_lt (Nat.lt_succ_of_lt hl0)))
          have hDi11 : (D, PySem.W.listOf iv.toArray iv.length) ∈ r11 := offs11 _ (.tail _ (hs11 _ hDi10 hDXd hDXG)) ⟨_, _, rfl⟩
          clear F₂ N₂ N₃
          (try ((with_reducible show wpAny _ _ (execs _ _) _ _ _); (try dsimp only); k_fold))
          k_steps
          (rename News _ _ _ _ => N12)
          (rename Fr _ _ _ _ => F12)
          have hDi12 : (D, PySem.W.listOf iv.toArray iv.length) ∈ ((s1.heap.objs.size + 1, oi) :: (s1.heap.objs.size + 1 + 1, ol) :: r11) := .tail _ (.tail _ hDi11)
          refine Hold.intro ?_
          refine comp_list (J := fun i ys nw => Sub ((s1.heap.objs.size + 1, oi) :: (s1.heap.objs.size + 1 + 1, ol) :: r11) nw ∧ StrsAre ys (((itemsFrom 0 (cellsOf ns)).take i).map fun x => numT x.1)) (by rfl) F12 N12 hDi12 (by decide) (by rfl) (by rfl) (by (first | lia | omega)) ⟨Sub.refl _, .nil⟩ ?_ ?_ ?_
          · intro i ys nw nw' zq21 hk
            (try dsimp only)
            (try k_fold)
            obtain ⟨hs, hy⟩ := zq21
            exact ⟨hs.kept hk, hy⟩
          · clear N12 F12
            intro i v I oI C oC D8 m₂ ys nw h tk E' s' zq22 hv hyl hcl hns hm hD2' zq23 F₂ N₂ off hne hoff
            (try dsimp only)
            (try k_fold)
            first | (refine e0a3 (zq22) ?_; intro g tk' er2; (try clear zq22); subst er2) | (refine e1a2 (zq22) ?_; intro g tk' er2; (try clear zq22); subst er2) | (refine e2a1 (zq22) ?_; intro g tk' er2; (try clear zq22); subst er2) | obtain ⟨g, tk', rfl⟩ := zq22
            obtain ⟨hs, hy⟩ := zq23
            first | (refine e0a6 (hIt11.inv i v hv) ?_; intro hi ti ki ui e hti) | (refine e1a5 (hIt11.inv i v hv) ?_; intro hi ti ki ui e hti) | (refine e2a4 (hIt11.inv i v hv) ?_; intro hi ti ki ui e hti) | (refine e3a3 (hIt11.inv i v hv) ?_; intro hi ti ki ui e hti) | (refine e4a2 (hIt11.inv i v hv) ?_; intro hi ti ki ui e hti) | (refine e5a1 (hIt11.inv i v hv) ?_; intro hi ti ki ui e hti) | obtain ⟨hi, ti, ki, ui, e, hti⟩ := hIt11.inv i v hv
            subst e
            have hti' := hs _ (.tail _ (.tail _ hti))
            obtain ⟨hb1, hb2⟩ := items_bnd _ (List.getElem_mem hi)
            generalize hxi : (itemsFrom 0 (cellsOf ns))[i] = xi at hti hti' hb1 hb2
            (try ((with_reducible show wpAny _ _ (execs _ _) _ _ _); (try dsimp only); k_fold))
            k_steps
            refine Hold.intro ?_
            (try (k_unfold; (try dsimp only)))
            unfold ElEnd
            refine ⟨_, _, _, rfl, by k_asm, by k_asm, .head _, .tail _ (.head _), .tail _ (.tail _ (.head _)), .tail _ (.tail _ (.tail _ hD2')), fun p hp => .tail _ (.tail _ (.tail _ (hs p hp))), ?_⟩
            exact strs_take hy hi (by rw [hxi]; rfl)
          · clear N12 F12
            intro C D12 oC m₂ ys12 nw12 h tk s' zq24 hyl12 zq25 _ hns F₂ N₂ off hCD hoff
            (try dsimp only)
            (try k_fold)
            refine Small.go ?_
            intro gSm hSm
            obtain ⟨g, rfl⟩ := zq24
            obtain ⟨hs12, hy12⟩ := zq25
            refine hSm ?_
            clear hSm gSm
            refine post_E F₂ N₂ hns off hCD fun h' F₃ N₃ => ?_
            rw [List.take_of_length_le (by rw [itemsFrom_length]; (first | lia | omega)), nums_items] at hy12
            have hok := nums_ok ns
            replace hy11 : StrsAre wv (nums ns) := hy11
            have hw12 := hs12 _ (.tail _ (.tail _ hw11))
            clear F₂ N₂
            (try ((with_reducible show wpAny _ _ (execs _ _) _ _ _); (try dsimp only); k_fold))
            k_steps
            refine Hold.intro ?_
            (k_dflt (refine' ne_strs ?Nq5 ?haq5 ?hbq5 ?hIq5 ?hKq5 ?hokq5 ?huq5 ?_; (case Nq5 => k_asm); (case haq5 => k_mem); (case hbq5 => exact List.Mem.head _); (case hIq5 => assumption); (case hKq5 => assumption); (case hokq5 => assumption); (case huq5 => ktr_units)); (try k_sweep))
            k_steps
            (rename News _ _ _ _ => N13)
            (rename Fr _ _ _ _ => F13)
            refine Small.go ?_
            intro gSm hSm
            obtain ⟨b13, e13⟩ := nameN N13
            obtain ⟨l13, e⟩ := name2a N13
            refine hSm ?_
            clear hSm gSm
            subst e
            have hl13 : (l13, PySem.W.listOf (List.toArray []) 0) ∈ b13 := by rw [e13]; exact .tail _ (.head _)
            have sub12 : Sub nw12 b13 := fun q hq => by rw [e13]; exact .tail _ (.tail _ (.tail _ hq))
            rw [← e13] at N13
            clear e13
            have sub13 : ∀ q ∈ r11, q ∈ b13 := fun q hq => sub12 _ (hs12 _ (.tail _ (.tail _ hq)))
            have hci13 := sub12 _ (hs12 _ (.head _))
            have hcl13 := sub12 _ (hs12 _ (.tail _ (.head _)))
            have hP13 := sub13 _ hPr
            have hw13 := sub13 _ hw11
            have hDi13 := sub13 _ hDi11
            have hIt13 : Its b13 iv (itemsFrom 0 (cellsOf ns)) := hIt11.mono fun _ _ _ _ _ hq => sub13 _ hq
            have HL13 := HLr.frame (news' := b13) fun p hp _ => sub13 p hp
            have hx13 := HL13.hx
            obtain ⟨td, hd13⟩ := HL13.hd
            have hclen : 7 ≤ (cellsOf ns).length := by unfold cellsOf; rw [List.length_append]; simp
            have hT13 := sub13 _ hT11
            have hTP84 : 84 ≠ X.P := apart N13 hT13 hP13 (by simp)
            have hxP : X.x ≠ X.P := apart2 N13 hx13 hP13 fun e => by cases e
            have hdP : X.d ≠ X.P := apart N13 hd13 hP13 (by simp)
            have hclP : s1.heap.objs.size + 1 + 1 ≠ X.P := apart2 N13 hcl13 hP13 fun e => by rw [e] at hol; simp at hol
            have hciP : s1.heap.objs.size + 1 ≠ X.P := apart2 N13 hci13 hP13 fun e => by rw [e] at hoi; simp at hoi
            have hxc : X.x ≠ s1.heap.objs.size + 1 + 1 := apart2 N13 hx13 hcl13 fun e => by rw [← e] at hol; simp at hol
            have hdc : X.d ≠ s1.heap.objs.size + 1 + 1 := apart2 N13 hd13 hcl13 fun e => by rw [← e] at hol; simp at hol
            have hwP : D9 ≠ X.P := apart2 N13 hw13 hP13 fun e => by
              have := congrArg Obj.data e
              simp at this
              have e1 := this.1
              subst e1
              simp at hyl11
              (first | lia | omega)
            have hDiP : D ≠ X.P := apart2 N13 hDi13 hP13 fun e => by
              have := congrArg Obj.data e
              simp at this
              have e1 := this.1
              subst e1
              simp at hyl3
              (first | lia | omega)
            have hcu := news_uniq N13 hcl13
            have hcu1 := news_uniq N13 hci13
            have hLbut : ∀ nw' : Led, (∀ q ∈ b13, q.1 ≠ X.P → q ∈ nw') → LexAt ww X (1 + lnTo (cellsOf ns)) sg11 nw' := fun nw' h => HL13.but N13 xoc xocl hP13 hXPG h
            have hTP13 : ∀ p ∈ b13, p.2.cls = .type "tuple" → p.1 ≠ X.P := fun p hp hc e => by
              have := news_uniq N13 hP13 p hp e
              rw [this] at hc
              simp at hc
            have hil : (itemsFrom 0 (cellsOf ns)).length = (cellsOf ns).length := itemsFrom_length _ _
            have hpw := itemsFrom_pw (cellsOf ns) 0
            have hnr := items_near hcl2
            refine Hold.intro ?_
            refine for_enum (fun i m nw => ∃ pb nPi es nl names nn, ∃ (tN te tl : Tok), (∀ q ∈ b13, q.1 ≠ X.P → q ∈ nw) ∧ (X.P, PySem.W.listOf (List.toArray pb) nPi) ∈ nw ∧ RowsAt nw pb es (runS ((itemsFrom 0 (cellsOf ns)).take i)).rows ∧ (X.P :: es).Nodup ∧ (∀ e ∈ es, ∀ q ∈ b13, q.1 ≠ e) ∧
              (nl, PySem.W.listOf (List.toArray names) nn) ∈ nw ∧ StrsAre names ((runS ((itemsFrom 0 (cellsOf ns)).take i)).rows.map fun r => PF r.length) ∧
              AllB [(Str.ofString "text", .str (Txt.join (Str.ofString "") ((cellsOf ns).map wOf)) tN), (Str.ofString "names", .ref nl), (Str.ofString "early", .int (runS ((itemsFrom 0 (cellsOf ns)).take i)).early te), (Str.ofString "late", .int (runS ((itemsFrom 0 (cellsOf ns)).take i)).late tl)] m) (by rfl) F13 N13 hw13 (by decide) ?_ ?_ ?_ ?_ (by rfl) (by rfl) (by rfl) (by passes_own)
            · exact ⟨[], _, [], l13, [], 0, _, _, _, fun q hq _ => hq, hP13, .nil, by simp, (by intro e he; cases he), hl13, .nil, rfl, rfl, rfl, rfl, trivial⟩
            · intro i m nw nw' zq26 hk
              (try dsimp only)
              (try k_fold)
              refine Small.go ?_
              intro gSm hSm
              obtain ⟨pb, nPi, es, nl, names, nn, tN, te, tl, h1, h2, h3, h4, h5, h6, h7, h8⟩ := zq26
              refine hSm ?_
              clear hSm gSm
              refine ⟨pb, nPi, es, nl, names, nn, tN, te, tl, fun q hq hne => hk q (h1 q hq hne) (.inr ⟨q, hq, rfl⟩), hk _ h2 (.inr ⟨_, hP13, rfl⟩), h3.mono fun p hp hc => hk p hp (.inl ?_), h4, h5, hk _ h6 (.inl ⟨by simp, by simp⟩), h7, h8⟩
              rcases hc with ⟨_, h, _⟩ | ⟨h, _⟩ <;> rw [h] <;> simp
            · clear N13 F13
              intro i x t m₁ news₁ h tk e oe it oit s' zq27 hx hl2 zq28 F₁ N₁ hoffe hoe hoi2
              (try dsimp only)
              (try k_fold)
              obtain ⟨g, rfl⟩ := zq27
              refine Small.go ?_
              intro gSm hSm
              obtain ⟨pb, nPi, es, nl, names, nn, tN, te, tl, hbase, hPi, hRi, hndi, hesi, hnli, hnmi, hBi⟩ := zq28
              refine hSm ?_
              clear hSm gSm
              first | (refine e0a3 (strs_inv hy11 i x hx) ?_; intro hi0 tw er2; subst er2) | (refine e1a2 (strs_inv hy11 i x hx) ?_; intro hi0 tw er2; subst er2) | (refine e2a1 (strs_inv hy11 i x hx) ?_; intro hi0 tw er2; subst er2) | obtain ⟨hi0, tw, rfl⟩ := strs_inv hy11 i x hx
              have hi1 : i < (cellsOf ns).length := by unfold nums at hi0; rw [List.length_map] at hi0; exact hi0
              have hi : i < (itemsFrom 0 (cellsOf ns)).length := by (first | lia | omega)
              have hcb := cells_bnd _ (List.getElem_mem hi1)
              first | (refine e0a4 (cell_args hcb.1 hcb.2) ?_; intro b1 b2 _ _) | (refine e1a3 (cell_args hcb.1 hcb.2) ?_; intro b1 b2 _ _) | (refine e2a2 (cell_args hcb.1 hcb.2) ?_; intro b1 b2 _ _) | (refine e3a1 (cell_args hcb.1 hcb.2) ?_; intro b1 b2 _ _) | obtain ⟨b1, b2, _, _⟩ := cell_args hcb.1 hcb.2
              have hit : (itemsFrom 0 (cellsOf ns))[i] = ((cellsOf ns)[i].fmod 41 - 20, (i : Int)) := by
                have := itemsFrom_get 0 (cellsOf ns) i hi1
                rw [List.getElem?_eq_getElem hi, Nat.zero_add] at this
                exact Option.some.inj this
              have hval : (nums ns)[i] = numT ((cellsOf ns)[i].fmod 41 - 20) := nums_get ns i hi0 hi1
              have hstp := runS_take hi
              rw [hit] at hstp
              have hrr := run_rows (by (first | lia | omega)) hpw hnr i (by (first | lia | omega))
              have hrw := run_weight (xs := itemsFrom 0 (cellsOf ns)) (by (first | lia | omega)) (i + 1) (by (first | lia | omega))
              have hrj := (run_rows (xs := itemsFrom 0 (cellsOf ns)) (by (first | lia | omega)) hpw hnr (i + 1) (by (first | lia | omega))).2.2.2 (by (first | lia | omega))
              rw [hval] at F₁
              generalize (cellsOf ns)[i].fmod 41 - 20 = v at *
              have hnt := num_text b1 b2
              have hEst : (runS ((itemsFrom 0 (cellsOf ns)).take i)).early + (sAll (v, (i : Int)) (runS ((itemsFrom 0 (cellsOf ns)).take i)).rows).early = (runS ((itemsFrom 0 (cellsOf ns)).take (i + 1))).early := by rw [hstp]; rfl
              have hLst : (runS ((itemsFrom 0 (cellsOf ns)).take i)).late + (sAll (v, (i : Int)) (runS ((itemsFrom 0 (cellsOf ns)).take i)).rows).late = (runS ((itemsFrom 0 (cellsOf ns)).take (i + 1))).late := by rw [hstp]; rfl
              have hnt3 : (numT v).length ≤ 640 := Nat.le_trans (numT_len b1 b2) (by decide)
              have F2 := Fr.bindX2 F₁ hBi
              first | (refine e0a5 (pull N₁ (.tail _ (.tail _ (hbase _ hcl13 hclP)))) ?_; intro rest N2 q1 q2 q3) | (refine e1a4 (pull N₁ (.tail _ (.tail _ (hbase _ hcl13 hclP)))) ?_; intro rest N2 q1 q2 q3) | (refine e2a3 (pull N₁ (.tail _ (.tail _ (hbase _ hcl13 hclP)))) ?_; intro rest N2 q1 q2 q3) | (refine e3a2 (pull N₁ (.tail _ (.tail _ (hbase _ hcl13 hclP)))) ?_; intro rest N2 q1 q2 q3) | (refine e4a1 (pull N₁ (.tail _ (.tail _ (hbase _ hcl13 hclP)))) ?_; intro rest N2 q1 q2 q3) | obtain ⟨rest, N2, q1, q2, q3⟩ := pull N₁ (.tail _ (.tail _ (hbase _ hcl13 hclP)))
              have offq : ∀ p ∈ (e, oe) :: (it, oit) :: news₁, (∃ xs n, p.2.data = .seq xs n) → p ∈ rest := fun p hp ⟨xs, n, e'⟩ => q2 p hp (apart2 (o := p.2) N₁ hp (.tail _ (.tail _ (hbase _ hcl13 hclP))) fun e2 => by rw [e2, hol] at e'; cases e')
              have gE : (e, oe) ∈ rest := q2 _ (.head _) (Ne.symm (hoffe _ hcl13).1)
              have gIt : (it, oit) ∈ rest := q2 _ (.tail _ (.head _)) (Ne.symm (hoffe _ hcl13).2)
              have gbase : ∀ q ∈ b13, q.1 ≠ X.P → q.1 ≠ s1.heap.objs.size + 1 + 1 → q ∈ rest := fun q hq h1 h2 => q2 q (.tail _ (.tail _ (hbase q hq h1))) h2
              have gX := gbase _ hx13 hxP hxc
              have gD := gbase _ hd13 hdP hdc
              have gP : (X.P, PySem.W.listOf (List.toArray pb) nPi) ∈ rest := offq _ (.tail _ (.tail _ hPi)) ⟨_, _, rfl⟩
              have gR : RowsAt rest pb es (runS ((itemsFrom 0 (cellsOf ns)).take i)).rows := hRi.mono fun p hp hc => offq p (.tail _ (.tail _ hp)) (by rcases hc with ⟨_, _, h⟩ | ⟨_, h⟩ <;> exact h)
              have gnl : (nl, PySem.W.listOf (List.toArray names) nn) ∈ rest := offq _ (.tail _ (.tail _ hnli)) ⟨_, _, rfl⟩
              have hnlen := hnmi.length
              rw [List.length_map] at hnlen
              first | (refine e0a4 (hrr) ?_; intro w1 w2 w3 w4; (try clear hrr)) | (refine e1a3 (hrr) ?_; intro w1 w2 w3 w4; (try clear hrr)) | (refine e2a2 (hrr) ?_; intro w1 w2 w3 w4; (try clear hrr)) | (refine e3a1 (hrr) ?_; intro w1 w2 w3 w4; (try clear hrr)) | obtain ⟨w1, w2, w3, w4⟩ := hrr
              have hrl20 : (runS ((itemsFrom 0 (cellsOf ns)).take i)).rows.length ≤ 20 := by (first | lia | omega)
              have hsum30 : ((runS ((itemsFrom 0 (cellsOf ns)).take i)).rows.map (·.length)).sum ≤ 30 := by (first | lia | omega)
              have hszi : ∀ r ∈ (runS ((itemsFrom 0 (cellsOf ns)).take i)).rows, 1 ≤ r.length ∧ Sorted r := fun r hr => ⟨(w3 r hr).1, (w3 r hr).2.2⟩
              have hnz : (names.length : Int) = ((runS ((itemsFrom 0 (cellsOf ns)).take i)).rows.length : Int) := by (first | lia | omega)
              have hnl1000 : names.length ≤ 1000 := by (first | lia | omega)
              have hi31 : (i : Int) + 1 ≤ 31 := by (first | lia | omega)
              have hEes : e ∉ es := fun hm => by
                first | (refine e0a3 (gR.lists _ hm) ?_; intro vs n hm) | (refine e1a2 (gR.lists _ hm) ?_; intro vs n hm) | (refine e2a1 (gR.lists _ hm) ?_; intro vs n hm) | obtain ⟨vs, n, hm⟩ := gR.lists _ hm
                exact absurd rfl (apart N2 (.tail _ gE) (.tail _ hm) (by rw [hoe]; simp))
              have hItes : it ∉ es := fun hm => by
                first | (refine e0a3 (gR.lists _ hm) ?_; intro vs n hm) | (refine e1a2 (gR.lists _ hm) ?_; intro vs n hm) | (refine e2a1 (gR.lists _ hm) ?_; intro vs n hm) | obtain ⟨vs, n, hm⟩ := gR.lists _ hm
                exact absurd rfl (apart N2 (.tail _ gIt) (.tail _ hm) (by rw [hoi2]; simp))
              clear F₁ N₁
              (try ((with_reducible show wpAny _ _ (execs _ _) _ _ _); (try dsimp only); k_fold))
              k_steps
              refine Hold.intro ?_
              (k_dflt (refine' call_of (f := 113) (C := c_storedZ (by k_mem) (by k_mem) (by k_mem) (by refine RowsAt.mono (by assumption) (fun _ hm8 _ => ?_); k_mem) (by first | exact List.Mem.head _ | k_mem) (by assumption) (by assumption) (by assumption) (by assumption) (by assumption)) (ret := ?_)); (intro ur9 un9 uh9 utk9 uP9 uF9 uN9; refine Hold.out ?_))
              k_steps
              refine Hold.intro ?_
              dsimp only
              (rename StoredPost _ _ _ _ _ _ => P9)
              refine Small.go ?_
              intro gSm hSm
              obtain ⟨T9, nl9, names9, nn9, te9, tl9, pw9, nP9, es9, er9, hT9, hnl9, hnm9, hR9, hP9, hnd9, hes9, hk9⟩ := P9
              refine hSm ?_
              clear hSm gSm
              subst er9
              have gE9 := hk9 _ (.tail _ (.tail _ gE)) (Ne.symm (hoffe _ hP13).1) hEes
              have gIt9 := hk9 _ (.tail _ (.tail _ gIt)) (Ne.symm (hoffe _ hP13).2) hItes
              have hb9 : ∀ q ∈ b13, q.1 ≠ X.P → q ∈ _ := fun q hq hne => hk9 q (by
                by_cases h1 : q.1 = s1.heap.objs.size + 1 + 1
                · rw [hcu q hq h1]; exact .tail _ (.head _)
                · exact .tail _ (.tail _ (gbase q hq hne h1))) hne (fun hm => hesi _ hm q hq rfl)
              have hes13 : ∀ e ∈ es9, ∀ q ∈ b13, q.1 ≠ e := fun e' he q hq => by
                rcases hes9 e' he with h1 | h1
                · exact hesi _ h1 q hq
                · by_cases h2 : q.1 = X.P
                  · rw [h2]; exact h1 _ (.tail _ (.tail _ gP))
                  · by_cases h3 : q.1 = s1.heap.objs.size + 1 + 1
                    · rw [h3]; exact h1 _ (.tail _ (.head _))
                    · exact h1 _ (.tail _ (.tail _ (gbase q hq h2 h3)))
              (try ((with_reducible show wpAny _ _ (execs _ _) _ _ _); (try dsimp only); k_fold))
              k_steps
              refine Hold.intro ?_
              (rename News _ _ _ _ => N14)
              have hnm10 : StrsAre names9 ((runS ((itemsFrom 0 (cellsOf ns)).take (i + 1))).rows.map fun r => PF r.length) := by rw [hstp]; exact hnm9
              have hin : ((i : Int) + 1).toNat = i + 1 := by (first | lia | omega)
              refine' join_listW (News.isList ?zN ?zm) ?zhi ?zsep ?zw ?_
              case zN => exact N14
              case zm => exact .tail _ hnl9
              case zhi => exact hnm10
              case zsep => decide
              case zw => exact hrw
              intro t' kj
              rw [hrj]
              (try ((with_reducible show wpAny _ _ (execs _ _) _ _ _); (try dsimp only); k_fold))
              k_steps
              refine Hold.intro ?_
              (k_dflt (refine' call_val (f := 82) (C := c_flagsZ (by (first | lia | omega)) (by (first | lia | omega))) (ret := ?_)); intro uk9 uh9 utk9 uF9 uN9; (try dsimp only); (try k_sweep))
              k_steps
              · exfalso
                (rename (PF (i + 1) != PF ((i : Int) + 1).toNat) = true => hbad)
                rw [hin] at hbad
                simp at hbad
              · refine Hold.intro ?_
                (try (k_unfold; (try dsimp only)))
                unfold FEnd2
                dsimp only
                refine ⟨_, _, _, _, rfl, by k_asm, by k_asm, .tail _ gE9, .tail _ gIt9, .tail _ (hb9 _ hw13 hwP), pw9, nP9, es9, nl9, names9, nn9, _, _, _, fun q hq hne => .tail _ (hb9 q hq hne), .tail _ hP9, ?_, hnd9, hes13, .tail _ hnl9, hnm10, rfl, rfl, congrArg (fun z => some (Value.int z _)) hEst, congrArg (fun z => some (Value.int z _)) hLst, trivial⟩
                rw [hstp]; exact hR9.mono fun q hq _ => .tail _ hq
            · clear N13 F13
              intro m₁ nw13 h tk zq29 hl2 F₁ N₁
              (try dsimp only)
              (try k_fold)
              refine Small.go ?_
              intro gSm hSm
              obtain ⟨pb, nPi, es, nl, names, nn, tN, te, tl, hbase, hPi, hRi, hndi, hesi, hnli, hnmi, hBi⟩ := zq29
              refine hSm ?_
              clear hSm gSm
              have hwn : wv.length = (itemsFrom 0 (cellsOf ns)).length := by (first | lia | omega)
              rw [hwn, List.take_length] at hRi hnmi hBi
              have F2 := Fr.bindA F₁ hBi
              have hRl := hRi.length
              have hrr := run_rows (by (first | lia | omega)) hpw hnr _ (Nat.le_refl _)
              rw [List.take_length] at hrr
              first | (refine e0a4 (hrr) ?_; intro w1 w2 w3 _; (try clear hrr)) | (refine e1a3 (hrr) ?_; intro w1 w2 w3 _; (try clear hrr)) | (refine e2a2 (hrr) ?_; intro w1 w2 w3 _; (try clear hrr)) | (refine e3a1 (hrr) ?_; intro w1 w2 w3 _; (try clear hrr)) | obtain ⟨w1, w2, w3, _⟩ := hrr
              have hnlen := hnmi.length
              rw [List.length_map] at hnlen
              first | (refine e0a6 (pull2 N₁ (hbase _ hci13 hciP) (hbase _ hcl13 hclP) (Nat.ne_of_lt (Nat.lt_succ_self _))) ?_; intro r14 N14 z1 z2 z3 z4) | (refine e1a5 (pull2 N₁ (hbase _ hci13 hciP) (hbase _ hcl13 hclP) (Nat.ne_of_lt (Nat.lt_succ_self _))) ?_; intro r14 N14 z1 z2 z3 z4) | (refine e2a4 (pull2 N₁ (hbase _ hci13 hciP) (hbase _ hcl13 hclP) (Nat.ne_of_lt (Nat.lt_succ_self _))) ?_; intro r14 N14 z1 z2 z3 z4) | (refine e3a3 (pull2 N₁ (hbase _ hci13 hciP) (hbase _ hcl13 hclP) (Nat.ne_of_lt (Nat.lt_succ_self _))) ?_; intro r14 N14 z1 z2 z3 z4) | (refine e4a2 (pull2 N₁ (hbase _ hci13 hciP) (hbase _ hcl13 hclP) (Nat.ne_of_lt (Nat.lt_succ_self _))) ?_; intro r14 N14 z1 z2 z3 z4) | (refine e5a1 (pull2 N₁ (hbase _ hci13 hciP) (hbase _ hcl13 hclP) (Nat.ne_of_lt (Nat.lt_succ_self _))) ?_; intro r14 N14 z1 z2 z3 z4) | obtain ⟨r14, N14, z1, z2, z3, z4⟩ := pull2 N₁ (hbase _ hci13 hciP) (hbase _ hcl13 hclP) (Nat.ne_of_lt (Nat.lt_succ_self _))
              have off14 : ∀ p ∈ nw13, (∃ xs n, p.2.data = .seq xs n) → p ∈ r14 := fun p hp ⟨xs, n, e⟩ => z3 p hp (apart2 (o := p.2) N₁ hp (hbase _ hci13 hciP) fun e' => by rw [e', hoi] at e; cases e) (apart2 (o := p.2) N₁ hp (hbase _ hcl13 hclP) fun e' => by rw [e', hol] at e; cases e)
              have gP14 := off14 _ hPi ⟨_, _, rfl⟩
              have gnl14 := off14 _ hnli ⟨_, _, rfl⟩
              have gR14 : RowsAt r14 pb es (runS (itemsFrom 0 (cellsOf ns))).rows := hRi.mono fun p hp hc => off14 p hp (by rcases hc with ⟨_, _, h⟩ | ⟨_, h⟩ <;> exact h)
              have gbase14 : ∀ q ∈ b13, q.1 ≠ X.P → q ∈ (s1.heap.objs.size + 1, oi) :: (s1.heap.objs.size + 1 + 1, ol) :: r14 := fun q hq hne => by
                by_cases h1 : q.1 = s1.heap.objs.size + 1 + 1
                · rw [hcu q hq h1]; exact .tail _ (.head _)
                · by_cases h2 : q.1 = s1.heap.objs.size + 1
                  · rw [hcu1 q hq h2]; exact .head _
                  · exact .tail _ (.tail _ (z3 q (hbase q hq hne) h2 h1))
              clear F₁ N₁
              (try ((with_reducible show wpAny _ _ (execs _ _) _ _ _); (try dsimp only); k_fold))
              k_steps
              refine Hold.intro ?_
              refine' comp_AL ?hyL ?hs1 ?hs2 ?hs3 ?hs4 ?_
              case hyL => k_dflt (exact rfl)
              case hs1 => with_unfolding_all rfl
              case hs2 => with_unfolding_all rfl
              case hs3 => rfl
              case hs4 => decide
              (try ((with_reducible show wpAny _ _ (execs _ _) _ _ _); (try dsimp only); k_fold))
              k_steps
              (rename News _ _ _ _ => N15)
              (rename Fr _ _ _ _ => F15)
              obtain ⟨b15, e15⟩ := nameN N15
              rw [← e15] at N15 gbase14
              have hX15 := gbase14 _ hx13 hxP
              have hD15 := gbase14 _ hd13 hdP
              have hci15 := gbase14 _ hci13 hciP
              have hcl15 := gbase14 _ hcl13 hclP
              have hP15 : (X.P, PySem.W.listOf (List.toArray pb) nPi) ∈ b15 := by rw [e15]; exact .tail _ (.tail _ gP14)
              have hnl15 : (nl, PySem.W.listOf (List.toArray names) nn) ∈ b15 := by rw [e15]; exact .tail _ (.tail _ gnl14)
              have gR15 : RowsAt b15 pb es (runS (itemsFrom 0 (cellsOf ns))).rows := gR14.mono fun p hp _ => by rw [e15]; exact .tail _ (.tail _ hp)
              have hnpos : 1 ≤ names.length := by
                rcases Nat.eq_zero_or_pos (runS (itemsFrom 0 (cellsOf ns))).rows.length with h0 | h0
                · have e0 := List.eq_nil_of_length_eq_zero h0
                  rw [e0] at w2
                  simp at w2
                  (first | lia | omega)
                · (first | lia | omega)
              have hnlP : nl ≠ X.P := apart2 N15 hnl15 hP15 fun e => by
                have := congrArg Obj.data e
                simp at this
                have e1 := this.1
                subst e1
                have := strs_refs hnmi hRi.refs
                rw [this] at hnpos
                simp at hnpos
              have hn5 : names.length ≤ 5 := by (first | lia | omega)
              have N15' := N15
              clear e15
              refine Hold.intro ?_
              refine comp_list (J := fun i ys nw => (∀ q ∈ b15, q.1 ≠ X.P → q ∈ nw) ∧ (∃ nq, (X.P, PySem.W.listOf (List.toArray (pb.drop i)) nq) ∈ nw) ∧ ys = pb.take i) (by rfl) F15 N15 hnl15 (by decide) (by rfl) (by rfl) (by (first | lia | omega)) ⟨fun q hq _ => hq, ⟨_, hP15⟩, rfl⟩ ?_ ?_ ?_
              · intro i ys nw nw' zq30 hk
                (try dsimp only)
                (try k_fold)
                refine Small.go ?_
                intro gSm hSm
                obtain ⟨hs, ⟨nq, hq⟩, hy⟩ := zq30
                refine hSm ?_
                clear hSm gSm
                exact ⟨fun q hq hne => hk q (hs q hq hne) (.inr ⟨q, hq, rfl⟩), ⟨nq, hk _ hq (.inr ⟨_, hP15, rfl⟩)⟩, hy⟩
              · clear N15 F15
                intro i v I oI C oC D8 m₂ ys nw h tk E' s' zq31 hv hyl hcl hns hm hD2' zq32 F₂ N₂ off hne hoff
                (try dsimp only)
                (try k_fold)
                first | (refine e0a3 (zq31) ?_; intro g tk' er2; (try clear zq31); subst er2) | (refine e1a2 (zq31) ?_; intro g tk' er2; (try clear zq31); subst er2) | (refine e2a1 (zq31) ?_; intro g tk' er2; (try clear zq31); subst er2) | obtain ⟨g, tk', rfl⟩ := zq31
                refine Small.go ?_
                intro gSm hSm
                obtain ⟨hs, ⟨nq, hq⟩, hy⟩ := zq32
                refine hSm ?_
                clear hSm gSm
                have hi : i < pb.length := by
                  have := (List.getElem?_eq_some_iff.mp hv).1
                  (first | lia | omega)
                rw [List.drop_eq_getElem_cons hi] at hq
                have hX' := hs _ hX15 hxP
                have hD' := hs _ hD15 hdP
                have hcl' := hs _ hcl15 hclP
                have hpl : (pb.drop (i + 1)).length ≤ 100 := by rw [List.length_drop]; (first | lia | omega)
                first | (refine e0a3 (hoff _ hP15) ?_; intro hI1 hI2 hI3) | (refine e1a2 (hoff _ hP15) ?_; intro hI1 hI2 hI3) | (refine e2a1 (hoff _ hP15) ?_; intro hI1 hI2 hI3) | obtain ⟨hI1, hI2, hI3⟩ := hoff _ hP15
                clear N15'
                (try ((with_reducible show wpAny _ _ (execs _ _) _ _ _); (try dsimp only); k_fold))
                k_steps
                refine Hold.intro ?_
                (k_dflt (refine' call_ret (f := 42) (C := c_pop (by k_mem) (by k_mem) (by k_mem) (by first | assumption | (first | lia | omega))) (ret := ?_)); (intro un9 uh9 utk9 uP9 uF9 uN9; obtain ⟨uhP9, uhk9⟩ := uP9); (try dsimp only); (try k_sweep))
                k_steps
                refine Hold.intro ?_
                (try (k_unfold; (try dsimp only)))
                unfold ElEnd
                (rename ∀ p ∈ (I, oI) :: _, _ → p ∈ _ => hk9)
                (rename (X.P, PySem.W.listOf (List.toArray (pb.drop (i + 1))) _) ∈ _ => hP9)
                refine ⟨_, _, _, rfl, by k_asm, by k_asm, hk9 _ (.head _) (Ne.symm hI1), hk9 _ (.tail _ (.head _)) (Ne.symm hI2), hk9 _ (.tail _ (.tail _ (.head _))) (Ne.symm hI3), hk9 _ (.tail _ (.tail _ (.tail _ hD2'))) hnlP, ⟨fun q hq hne => hk9 _ (.tail _ (.tail _ (.tail _ (hs q hq hne)))) hne, ⟨_, hP9⟩, ?_⟩⟩
                rw [hy, List.take_add_one, List.getElem?_eq_getElem hi]
                rfl
              · clear N15 F15
                intro C D16 oC m₂ rv nw16 h tk s' zq33 hyl16 zq34 _ hns F₂ N₂ off hCD hoff
                (try dsimp only)
                (try k_fold)
                refine Small.go ?_
                intro gSm hSm
                obtain ⟨g, rfl⟩ := zq33
                obtain ⟨hs16, ⟨nq, hq16⟩, hy16⟩ := zq34
                refine hSm ?_
                clear hSm gSm
                refine' post_AK ?zL ?zy ?zp F₂ N₂ hns off hCD (fun h' F₃ N₃ => ?_)
                case zL => rfl
                case zy => rfl
                case zp => rfl
                have hpn : names.length = pb.length := by (first | lia | omega)
                rw [hpn, List.drop_length] at hq16
                rw [hpn, List.take_length] at hy16
                subst hy16
                first | (refine e0a6 (pull2 N₃ (.tail _ (hs16 _ hci15 hciP)) (.tail _ (hs16 _ hcl15 hclP)) (Nat.ne_of_lt (Nat.lt_succ_self _))) ?_; intro r16 N16 y1 y2 y3 y4) | (refine e1a5 (pull2 N₃ (.tail _ (hs16 _ hci15 hciP)) (.tail _ (hs16 _ hcl15 hclP)) (Nat.ne_of_lt (Nat.lt_succ_self _))) ?_; intro r16 N16 y1 y2 y3 y4) | (refine e2a4 (pull2 N₃ (.tail _ (hs16 _ hci15 hciP)) (.tail _ (hs16 _ hcl15 hclP)) (Nat.ne_of_lt (Nat.lt_succ_self _))) ?_; intro r16 N16 y1 y2 y3 y4) | (refine e3a3 (pull2 N₃ (.tail _ (hs16 _ hci15 hciP)) (.tail _ (hs16 _ hcl15 hclP)) (Nat.ne_of_lt (Nat.lt_succ_self _))) ?_; intro r16 N16 y1 y2 y3 y4) | (refine e4a2 (pull2 N₃ (.tail _ (hs16 _ hci15 hciP)) (.tail _ (hs16 _ hcl15 hclP)) (Nat.ne_of_lt (Nat.lt_succ_self _))) ?_; intro r16 N16 y1 y2 y3 y4) | (refine e5a1 (pull2 N₃ (.tail _ (hs16 _ hci15 hciP)) (.tail _ (hs16 _ hcl15 hclP)) (Nat.ne_of_lt (Nat.lt_succ_self _))) ?_; intro r16 N16 y1 y2 y3 y4) | obtain ⟨r16, N16, y1, y2, y3, y4⟩ := pull2 N₃ (.tail _ (hs16 _ hci15 hciP)) (.tail _ (hs16 _ hcl15 hclP)) (Nat.ne_of_lt (Nat.lt_succ_self _))
                have hc16a := hs16 _ hci15 hciP
                have hc16b := hs16 _ hcl15 hclP
                have off16 : ∀ p ∈ (D16, LCg.lst rv) :: nw16, (∃ xs n, p.2.data = .seq xs n) → p ∈ r16 := fun p hp ⟨xs, n, e⟩ => y3 p hp (apart2 (o := p.2) N₃ hp (.tail _ hc16a) fun e' => by rw [e', hoi] at e; cases e) (apart2 (o := p.2) N₃ hp (.tail _ hc16b) fun e' => by rw [e', hol] at e; cases e)
                have hTP : ∀ p ∈ b15, p.2.cls = .type "tuple" → p.1 ≠ X.P := fun p hp hc e => by
                  have := news_uniq N15' hP15 p hp e
                  rw [this] at hc
                  simp at hc
                have gR16 : RowsAt r16 rv es (runS (itemsFrom 0 (cellsOf ns))).rows := gR15.mono fun p hp hc => by
                  rcases hc with ⟨h1, _, h2⟩ | ⟨h1, h2⟩
                  · exact off16 p (.tail _ (hs16 p hp fun e => (List.nodup_cons.mp hndi).1 (e ▸ h1))) h2
                  · exact off16 p (.tail _ (hs16 p hp (hTP p hp h1))) h2
                have hRw16 : (D16, PySem.W.listOf (List.toArray rv) rv.length) ∈ r16 := off16 _ (.head _) ⟨_, _, rfl⟩
                have hDi16 := off16 _ (.tail _ (hs16 _ (gbase14 _ hDi13 hDiP) hDiP)) ⟨_, _, rfl⟩
                have hIt16 : Its r16 iv (itemsFrom 0 (cellsOf ns)) := hIt13.mono fun t v p k u hm => by
                  have h1 : t ≠ X.P := hTP13 _ hm rfl
                  exact off16 _ (.tail _ (hs16 _ (gbase14 _ hm h1) h1)) ⟨_, _, rfl⟩
                have hq16b := off16 _ (.tail _ hq16) ⟨_, _, rfl⟩
                have gbase16 : ∀ q ∈ b13, q.1 ≠ X.P → q ∈ (s1.heap.objs.size + 1, oi) :: (s1.heap.objs.size + 1 + 1, ol) :: r16 := fun q hq hne => by
                  by_cases h1 : q.1 = s1.heap.objs.size + 1 + 1
                  · rw [hcu q hq h1]; exact .tail _ (.head _)
                  · by_cases h2 : q.1 = s1.heap.objs.size + 1
                    · rw [hcu1 q hq h2]; exact .head _
                    · exact .tail _ (.tail _ (y3 q (.tail _ (hs16 q (gbase14 q hq hne) hne)) h2 h1))
                have hrl20 : (runS (itemsFrom 0 (cellsOf ns))).rows.length ≤ 20 := by (first | lia | omega)
                have hil31 : (itemsFrom 0 (cellsOf ns)).length ≤ 31 := by (first | lia | omega)
                have hsz31 : ∀ r ∈ (runS (itemsFrom 0 (cellsOf ns))).rows, 1 ≤ r.length ∧ r.length ≤ 31 ∧ Sorted r := fun r hr => ⟨(w3 r hr).1, Nat.le_trans (w3 r hr).2.1 (by (first | lia | omega)), (w3 r hr).2.2⟩
                have hdis := items_dis hcl2
                have hparts := run_parts (by (first | lia | omega)) hpw hnr
                have hlate := late_all (by (first | lia | omega)) hpw hnr
                clear F₂ N₂ N₃ N15'
                (try ((with_reducible show wpAny _ _ (execs _ _) _ _ _); (try dsimp only); k_fold))
                k_steps
                refine Hold.intro ?_
                (k_dflt (refine' call_of (f := 118) (C := c_parted (by k_mem) (by refine RowsAt.mono (by assumption) (fun _ hm8 _ => ?_); k_mem) (by k_mem) (by first | assumption | exact Its.mono (by assumption) (fun _ _ _ _ _ h => by k_mem)) (by assumption) (by assumption) (by assumption) (by assumption) (by assumption) (by assumption)) (ret := ?_)); (intro ur9 un9 uh9 utk9 uP9 uF9 uN9; refine Hold.out ?_))
                k_steps
                refine Hold.intro ?_
                dsimp only
                (rename (∃ t, _) ∧ Sub _ _ => P9)
                obtain ⟨⟨t18, er9⟩, hs18⟩ := P9
                subst er9
                (rename News _ _ _ _ => N18)
                have hc18a := hs18 _ (.head _)
                have hc18b := hs18 _ (.tail _ (.head _))
                first | (refine e0a6 (pull2 N18 hc18a hc18b (Nat.ne_of_lt (Nat.lt_succ_self _))) ?_; intro r18 N19 x1 x2 x3 x4) | (refine e1a5 (pull2 N18 hc18a hc18b (Nat.ne_of_lt (Nat.lt_succ_self _))) ?_; intro r18 N19 x1 x2 x3 x4) | (refine e2a4 (pull2 N18 hc18a hc18b (Nat.ne_of_lt (Nat.lt_succ_self _))) ?_; intro r18 N19 x1 x2 x3 x4) | (refine e3a3 (pull2 N18 hc18a hc18b (Nat.ne_of_lt (Nat.lt_succ_self _))) ?_; intro r18 N19 x1 x2 x3 x4) | (refine e4a2 (pull2 N18 hc18a hc18b (Nat.ne_of_lt (Nat.lt_succ_self _))) ?_; intro r18 N19 x1 x2 x3 x4) | (refine e5a1 (pull2 N18 hc18a hc18b (Nat.ne_of_lt (Nat.lt_succ_self _))) ?_; intro r18 N19 x1 x2 x3 x4) | obtain ⟨r18, N19, x1, x2, x3, x4⟩ := pull2 N18 hc18a hc18b (Nat.ne_of_lt (Nat.lt_succ_self _))
                have off18 : ∀ p ∈ r16, p ∈ r18 := fun p hp => x3 p (hs18 _ (.tail _ (.tail _ hp))) (y1 p (.tail _ hp)) (y2 p hp)
                have hDi18 := off18 _ hDi16
                have hIt18 : Its r18 iv (itemsFrom 0 (cellsOf ns)) := hIt16.mono fun _ _ _ _ _ hm => off18 _ hm
                have hq18 := off18 _ hq16b
                have gbase18 : ∀ q ∈ b13, q.1 ≠ X.P → q ∈ (s1.heap.objs.size + 1, oi) :: (s1.heap.objs.size + 1 + 1, ol) :: r18 := fun q hq hne => by
                  have h1 := gbase16 q hq hne
                  rcases List.mem_cons.mp h1 with rfl | h1
                  · exact .head _
                  rcases List.mem_cons.mp h1 with rfl | h1
                  · exact .tail _ (.head _)
                  · exact .tail _ (.tail _ (off18 q h1))
                clear N18
                (try ((with_reducible show wpAny _ _ (execs _ _) _ _ _); (try dsimp only); k_fold))
                k_steps
                (rename News _ _ _ _ => N20)
                (rename Fr _ _ _ _ => F20)
                obtain ⟨b20, e20⟩ := nameN N20
                have hDi20 : (D, PySem.W.listOf (List.toArray iv) iv.length) ∈ b20 := by rw [e20]; exact .tail _ (.tail _ hDi18)
                have hci20 : (s1.heap.objs.size + 1, oi) ∈ b20 := by rw [e20]; exact .head _
                have hIt20 : Its b20 iv (itemsFrom 0 (cellsOf ns)) := hIt18.mono fun _ _ _ _ _ hm => by rw [e20]; exact .tail _ (.tail _ hm)
                rw [← e20] at N20
                have hcl20 : (s1.heap.objs.size + 1 + 1, ol) ∈ b20 := by rw [e20]; exact .tail _ (.head _)
                have hP20 : (X.P, PySem.W.listOf (List.toArray []) nq) ∈ b20 := by rw [e20]; exact .tail _ (.tail _ hq18)
                rw [← e20] at gbase18
                have gbase20 := gbase18
                have hivl : iv.length = (itemsFrom 0 (cellsOf ns)).length := hIt20.length
                refine Hold.intro ?_
                refine comp_enum_nest (J := fun i ys nw => Sub b20 nw ∧ (∃ n : Nat, IntsAre ys (List.replicate n 1) ∧ (n : Int) = inv ((itemsFrom 0 (cellsOf ns)).take i)) ∧ ys.length ≤ i * 31) (by rfl) F20 N20 hDi20 (by decide) (by rfl) (by rfl) (by rfl) (by decide) ⟨Sub.refl _, ⟨0, .nil, rfl⟩, by simp⟩ (by intro _ _; rfl) ?_ ?_ ?_
                · intro i ys nw nw' zq35 hk
                  (try dsimp only)
                  (try k_fold)
                  obtain ⟨hs, hy⟩ := zq35
                  exact ⟨hs.kept hk, hy⟩
                · clear N20 F20
                  intro i x t e it oe oi2 C oC D7 m₂ ys nw h tk E' s' zq36 hx hns ha hb hD2' zq37 F₂ N₂ offn hCD
                  (try dsimp only)
                  (try k_fold)
                  first | (refine e0a3 (zq36) ?_; intro g tk' er2; (try clear zq36); subst er2) | (refine e1a2 (zq36) ?_; intro g tk' er2; (try clear zq36); subst er2) | (refine e2a1 (zq36) ?_; intro g tk' er2; (try clear zq36); subst er2) | obtain ⟨g, tk', rfl⟩ := zq36
                  first | (refine e0a3 (zq37) ?_; intro hs hy hyl; (try clear zq37)) | (refine e1a2 (zq37) ?_; intro hs hy hyl; (try clear zq37)) | (refine e2a1 (zq37) ?_; intro hs hy hyl; (try clear zq37)) | obtain ⟨hs, hy, hyl⟩ := zq37
                  first | (refine e0a6 (hIt20.inv i x hx) ?_; intro hi ti ki ui ex hti) | (refine e1a5 (hIt20.inv i x hx) ?_; intro hi ti ki ui ex hti) | (refine e2a4 (hIt20.inv i x hx) ?_; intro hi ti ki ui ex hti) | (refine e3a3 (hIt20.inv i x hx) ?_; intro hi ti ki ui ex hti) | (refine e4a2 (hIt20.inv i x hx) ?_; intro hi ti ki ui ex hti) | (refine e5a1 (hIt20.inv i x hx) ?_; intro hi ti ki ui ex hti) | obtain ⟨hi, ti, ki, ui, ex, hti⟩ := hIt20.inv i x hx
                  subst ex
                  have hti' := hs _ hti
                  have hci' := hs _ hci20
                  have hin0 : (0 : Int) ≤ (i : Int) := by (first | lia | omega)
                  have hiv1000 : iv.length ≤ 1000 := by (first | lia | omega)
                  (try ((with_reducible show wpAny _ _ (execs _ _) _ _ _); (try dsimp only); k_fold))
                  k_steps
                  refine Hold.intro ?_
                  (rename News _ _ _ _ => N22)
                  obtain ⟨D22, ed⟩ := name1a N22
                  subst ed
                  have hitl : ((itemsFrom 0 (cellsOf ns)).take i).length = i := by rw [List.length_take]; (first | lia | omega)
                  first | (refine e0a3 (hy) ?_; intro nA hyA hnA; (try clear hy)) | (refine e1a2 (hy) ?_; intro nA hyA hnA; (try clear hy)) | (refine e2a1 (hy) ?_; intro nA hyA hnA; (try clear hy)) | obtain ⟨nA, hyA, hnA⟩ := hy
                  (rename Fr _ _ _ _ => F22)
                  have N23 := news_last N22
                  (rename @LT.lt Nat _ e D22 ∧ _ => lD22)
                  first | (refine e0a5 (lD22) ?_; intro _ _ lC22 lD22b _; (try clear lD22)) | (refine e1a4 (lD22) ?_; intro _ _ lC22 lD22b _; (try clear lD22)) | (refine e2a3 (lD22) ?_; intro _ _ lC22 lD22b _; (try clear lD22)) | (refine e3a2 (lD22) ?_; intro _ _ lC22 lD22b _; (try clear lD22)) | (refine e4a1 (lD22) ?_; intro _ _ lC22 lD22b _; (try clear lD22)) | obtain ⟨_, _, lC22, lD22b, _⟩ := lD22
                  have hin : ((i : Int)).toNat = i := by (first | lia | omega)
                  have hi31 : i ≤ 31 := by (first | lia | omega)
                  refine inner_test (iso := [(e, oe), (it, oi2)]) (m₀ := m₂) (fun q zs m1 nw' => (e, oe) ∈ nw' ∧ (it, oi2) ∈ nw' ∧ (D, PySem.W.listOf (List.toArray iv) iv.length) ∈ nw' ∧ Sub b20 nw' ∧ (∃ n : Nat, IntsAre zs (List.replicate n 1) ∧ (n : Int) = inv ((itemsFrom 0 (cellsOf ns)).take i) + above ((itemsFrom 0 (cellsOf ns)).take q) (itemsFrom 0 (cellsOf ns))[i]) ∧ zs.length ≤ i * 31 + q ∧ q ≤ 31 ∧ m1 (Str.ofString "two") = some (.ref ti)) rfl (by rfl) F22 N23 hns ?_ hCD (.head _) (by rfl) (by rfl) ?_ ?_ ?_ ?_ ?_
                  · intro q hq
                    rcases List.mem_cons.mp hq with rfl | hq
                    · exact offn _ (.head _)
                    rcases List.mem_cons.mp hq with rfl | hq
                    · exact offn _ (.tail _ (.head _))
                    rcases List.mem_cons.mp hq with rfl | hq
                    · exact ⟨Ne.symm (Nat.ne_of_lt lC22), Ne.symm (Nat.ne_of_lt lD22b)⟩
                    · exact offn _ (.tail _ (.tail _ hq))
                  · exact ⟨.head _, .tail _ (.head _), .tail _ (.tail _ (.tail _ hD2')), fun q hq => .tail _ (.tail _ (.tail _ (hs q hq))), ⟨nA, hyA, by rw [List.take_zero, above_nil, Int.add_zero]; exact hnA⟩, by (first | lia | omega), by (first | lia | omega), hb⟩
                  · intro q zs m₁ n zq38
                    (try dsimp only)
                    (try k_fold)
                    first | (refine e0a8 (zq38) ?_; intro _ _ _ _ _ h6 h7 _; (try clear zq38)) | (refine e1a7 (zq38) ?_; intro _ _ _ _ _ h6 h7 _; (try clear zq38)) | (refine e2a6 (zq38) ?_; intro _ _ _ _ _ h6 h7 _; (try clear zq38)) | (refine e3a5 (zq38) ?_; intro _ _ _ _ _ h6 h7 _; (try clear zq38)) | (refine e4a4 (zq38) ?_; intro _ _ _ _ _ h6 h7 _; (try clear zq38)) | (refine e5a3 (zq38) ?_; intro _ _ _ _ _ h6 h7 _; (try clear zq38)) | obtain ⟨_, _, _, _, _, h6, h7, _⟩ := zq38
                    (first | lia | omega)
                  · intro q zs m1 n n' zq39 hk
                    (try dsimp only)
                    (try k_fold)
                    first | (refine e0a5 (zq39) ?_; intro a1 a2 a3 a4 a5; (try clear zq39)) | (refine e1a4 (zq39) ?_; intro a1 a2 a3 a4 a5; (try clear zq39)) | (refine e2a3 (zq39) ?_; intro a1 a2 a3 a4 a5; (try clear zq39)) | (refine e3a2 (zq39) ?_; intro a1 a2 a3 a4 a5; (try clear zq39)) | (refine e4a1 (zq39) ?_; intro a1 a2 a3 a4 a5; (try clear zq39)) | obtain ⟨a1, a2, a3, a4, a5⟩ := zq39
                    exact ⟨hk _ a1 (.inr ⟨_, .head _, rfl⟩), hk _ a2 (.inr ⟨_, .tail _ (.head _), rfl⟩), hk _ a3 (.inr ⟨_, .tail _ (.tail _ (.tail _ hD2')), rfl⟩), fun p hp => hk p (a4 p hp) (.inr ⟨p, .tail _ (.tail _ (.tail _ (hs p hp))), rfl⟩), a5⟩
                  · intro q v I3 oI3 oC3 m1 zs nw' h6 tk6 E3 s6 zq40 hv6 zq41 hns3 hc3 hl3 F₃ N₃ off3 hne3 hoff3
                    first | (refine e0a3 (zq40) ?_; intro g6 tk7 er2; (try clear zq40); subst er2) | (refine e1a2 (zq40) ?_; intro g6 tk7 er2; (try clear zq40); subst er2) | (refine e2a1 (zq40) ?_; intro g6 tk7 er2; (try clear zq40); subst er2) | obtain ⟨g6, tk7, rfl⟩ := zq40
                    refine Small.go ?_
                    intro gSm hSm
                    obtain ⟨a1, a2, a3, a4, ⟨nB, hzB, hnB⟩, a6, a7, a8⟩ := zq41
                    refine hSm ?_
                    clear hSm gSm
                    have hq : q < i := by
                      have := (List.getElem?_eq_some_iff.mp hv6).1
                      rw [List.length_take] at this
                      (first | lia | omega)
                    rw [List.getElem?_take_of_lt (by (first | lia | omega))] at hv6
                    first | (refine e0a6 (hIt20.inv q v hv6) ?_; intro hq2 tq kq uq eq6 htq) | (refine e1a5 (hIt20.inv q v hv6) ?_; intro hq2 tq kq uq eq6 htq) | (refine e2a4 (hIt20.inv q v hv6) ?_; intro hq2 tq kq uq eq6 htq) | (refine e3a3 (hIt20.inv q v hv6) ?_; intro hq2 tq kq uq eq6 htq) | (refine e4a2 (hIt20.inv q v hv6) ?_; intro hq2 tq kq uq eq6 htq) | (refine e5a1 (hIt20.inv q v hv6) ?_; intro hq2 tq kq uq eq6 htq) | obtain ⟨hq2, tq, kq, uq, eq6, htq⟩ := hIt20.inv q v hv6
                    subst eq6
                    have htq' := a4 _ htq
                    have hti3 := a4 _ hti
                    have hm3 : (fun z => if z = Str.ofString "one" then some (Value.ref tq) else m1 z) (Str.ofString "one") = some (Value.ref tq) := by simp
                    have hm4 : (fun z => if z = Str.ofString "one" then some (Value.ref tq) else m1 z) (Str.ofString "two") = some (Value.ref ti) := by
                      have : (Str.ofString "two") ≠ Str.ofString "one" := by decide
                      simp only [if_neg this]
                      exact a8
                    have hm5 : ∀ z, z = (fun z => if z = Str.ofString "one" then some (Value.ref tq) else m1 z) → z (Str.ofString "two") = some (Value.ref ti) := fun z e => by rw [e]; exact hm4
                    generalize hm6 : (fun z => if z = Str.ofString "one" then some (Value.ref tq) else m1 z) = m4 at hns3 hm3 hm4
                    have hst := above_step (y := (itemsFrom 0 (cellsOf ns))[i]) hq2
                    clear N22 N23 F22
                    k_steps
                    · (rename _ < _ => hgt)
                      refine Hold.intro ?_
                      (try (k_unfold; (try dsimp only)))
                      unfold ElEnd
                      rw [if_pos hgt] at hst
                      refine ⟨_, _, _, rfl, by k_asm, by k_asm, .head _, .tail _ (.head _), .tail _ (.tail _ (.head _)), .tail _ (.tail _ (.tail _ hl3)), .tail _ (.tail _ (.tail _ a1)), .tail _ (.tail _ (.tail _ a2)), .tail _ (.tail _ (.tail _ a3)), fun p hp => .tail _ (.tail _ (.tail _ (a4 p hp))), ⟨nB + 1, ones_snoc hzB, by (first | lia | omega)⟩, by simp; (first | lia | omega), by (first | lia | omega), hm5 _ hm6.symm⟩
                    · (rename ¬ (_ < _) => hgt)
                      refine Hold.intro ?_
                      (try (k_unfold; (try dsimp only)))
                      unfold ElEnd
                      rw [if_neg hgt] at hst
                      refine ⟨_, _, _, rfl, by k_asm, by k_asm, .head _, .tail _ (.head _), .tail _ (.tail _ (.head _)), .tail _ (.tail _ (.tail _ hl3)), .tail _ (.tail _ (.tail _ a1)), .tail _ (.tail _ (.tail _ a2)), .tail _ (.tail _ (.tail _ a3)), fun p hp => .tail _ (.tail _ (.tail _ (a4 p hp))), ⟨nB, hzB, by (first | lia | omega)⟩, by (first | lia | omega), by (first | lia | omega), hm5 _ hm6.symm⟩
                  · intro oC3 m1 zs nw' h6 tk6 zq42 hl3 hns3 F₃ N₃ off3
                    (try dsimp only)
                    (try k_fold)
                    refine Small.go ?_
                    intro gSm hSm
                    obtain ⟨a1, a2, a3, a4, ⟨nB, hzB, hnB⟩, a6, a7, a8⟩ := zq42
                    refine hSm ?_
                    clear hSm gSm
                    have htl : (iv.take ((i : Int)).toNat).length = i := by rw [List.length_take]; (first | lia | omega)
                    rw [htl] at hnB
                    refine ⟨h6, tk6, oC3, m1, zs, _, rfl, F₃, N₃, fun q hq => ?_, .head _, hns3, .tail _ (.head _), .tail _ (.tail _ a3), fun p hp => .tail _ (.tail _ (a4 p hp)), ⟨nB, hzB, ?_⟩, ?_⟩
                    · rcases List.mem_cons.mp hq with rfl | hq
                      · exact .tail _ (.tail _ a1)
                      · rw [List.mem_singleton.mp hq]; exact .tail _ (.tail _ a2)
                    · rw [inv_take hi]; exact hnB
                    · rw [htl] at a6; (first | lia | omega)
                · clear N20 F20
                  intro C D21 oC m₂ ov nw21 h tk s' zq43 zq44 _ hns F₂ N₂ off hCD hoff
                  (try dsimp only)
                  (try k_fold)
                  refine Small.go ?_
                  intro gSm hSm
                  obtain ⟨g, rfl⟩ := zq43
                  obtain ⟨hs21, ⟨n21, hy21, hn21⟩, hyl21⟩ := zq44
                  refine hSm ?_
                  clear hSm gSm
                  refine post_E F₂ N₂ hns off hCD fun h' F₃ N₃ => ?_
                  rw [hivl, List.take_length] at hn21
                  have hcl21 := hs21 _ hcl20
                  first | (refine e0a6 (pull2 (ob := PySem.W.listOf (List.toArray ov) ov.length) N₃ (.tail _ hcl21) (.head _) (hoff _ hcl20).2) ?_; intro r24 N24 v1 v2 v3 v4) | (refine e1a5 (pull2 (ob := PySem.W.listOf (List.toArray ov) ov.length) N₃ (.tail _ hcl21) (.head _) (hoff _ hcl20).2) ?_; intro r24 N24 v1 v2 v3 v4) | (refine e2a4 (pull2 (ob := PySem.W.listOf (List.toArray ov) ov.length) N₃ (.tail _ hcl21) (.head _) (hoff _ hcl20).2) ?_; intro r24 N24 v1 v2 v3 v4) | (refine e3a3 (pull2 (ob := PySem.W.listOf (List.toArray ov) ov.length) N₃ (.tail _ hcl21) (.head _) (hoff _ hcl20).2) ?_; intro r24 N24 v1 v2 v3 v4) | (refine e4a2 (pull2 (ob := PySem.W.listOf (List.toArray ov) ov.length) N₃ (.tail _ hcl21) (.head _) (hoff _ hcl20).2) ?_; intro r24 N24 v1 v2 v3 v4) | (refine e5a1 (pull2 (ob := PySem.W.listOf (List.toArray ov) ov.length) N₃ (.tail _ hcl21) (.head _) (hoff _ hcl20).2) ?_; intro r24 N24 v1 v2 v3 v4) | obtain ⟨r24, N24, v1, v2, v3, v4⟩ := pull2 (ob := PySem.W.listOf (List.toArray ov) ov.length) N₃ (.tail _ hcl21) (.head _) (hoff _ hcl20).2
                  have offc24 : ∀ p ∈ (D21, LCg.lst ov) :: nw21, p.1 ≠ D21 → (∃ xs n, p.2.data = .seq xs n) → p ∈ r24 := fun p hp hne ⟨xs, n, e⟩ => v3 p hp (apart2 (o := p.2) N₃ hp (.tail _ hcl21) fun e' => by rw [e', hol] at e; cases e) hne
                  have hP24 := offc24 _ (.tail _ (hs21 _ hP20)) (hoff _ hP20).2 ⟨_, _, rfl⟩
                  have gb24 : ∀ q ∈ b13, q.1 ≠ X.P → q ∈ (s1.heap.objs.size + 1 + 1, ol) :: (D21, PySem.W.listOf (List.toArray ov) ov.length) :: r24 := fun q hq hne => by
                    by_cases h1 : q.1 = s1.heap.objs.size + 1 + 1
                    · rw [hcu q hq h1]; exact .head _
                    · exact .tail _ (.tail _ (v3 q (.tail _ (hs21 q (gbase20 q hq hne))) h1 (hoff _ (gbase20 q hq hne)).2))
                  have HL24 := hLbut _ gb24
                  have hLF24 : LexF ww X (1 + lnTo (cellsOf ns)) [] ((s1.heap.objs.size + 1 + 1, ol) :: (D21, PySem.W.listOf (List.toArray ov) ov.length) :: r24) := ⟨_, HL24, by rw [hsg0]; exact .nil⟩
                  obtain ⟨hl1, hl2⟩ := hlate
                  have hR0 := late_nonneg (runS (itemsFrom 0 (cellsOf ns))).rows
                  have hsm : (List.replicate n21 (1 : Int)).sum = inv (itemsFrom 0 (cellsOf ns)) := by rw [ones_sum]; exact hn21
                  rw [hl1] at F₃
                  generalize lateTo (runS (itemsFrom 0 (cellsOf ns))).rows (runS (itemsFrom 0 (cellsOf ns))).rows.length = Re at F₃ hl2 hR0
                  have htx := text_lines ns
                  clear F₂ N₂ N₃ hRi gR14 gR15 gR16 hparts hdis hsz31 hrl20 hil31 w1 w2 w3 hnmi hBi
                  generalize (runS (itemsFrom 0 (cellsOf ns))).late = La at F₃ hl2
                  generalize inv (itemsFrom 0 (cellsOf ns)) = Iv at F₃ hl2 hsm hn21
                  generalize Txt.join (Str.ofString "") ((cellsOf ns).map wOf) = Tx at F₃ htx
                  have hT24 : (84, tabObj ps84) ∈ r24 := v3 _ (.tail _ (hs21 _ (gbase20 _ hT13 hTP84))) (Nat.ne_of_lt (Nat.lt_succ_of_lt (Nat.lt_succ_of_lt hl0))) (hoff _ (gbase20 _ hT13 hTP84)).2
                  have hx24 : (X.x, instObj 52 X.d) ∈ r24 := v3 _ (.tail _ (hs21 _ (gbase20 _ hx13 hxP))) hxc (hoff _ (gbase20 _ hx13 hxP)).2
                  have hd24 := v3 _ (.tail _ (hs21 _ (gbase20 _ hd13 hdP))) hdc (hoff _ (gbase20 _ hd13 hdP)).2
                  have Fz := F₃
                  have Nz := N24
                  iterate 6 (first | clear F₃ | clear F9 | clear N24 | clear N21 | skip)
                  (repeat clear hT8; repeat clear hT84; repeat clear hT10; repeat clear hT11; repeat clear hTd; repeat clear hTG; repeat clear e1; repeat clear e2; repeat clear e3; repeat clear e4; repeat clear hD1; repeat clear hyl; repeat clear hy; repeat clear a; repeat clear hns; repeat clear off; repeat clear hCD; repeat clear hoff)
                  (repeat clear h7; repeat clear hc2; repeat clear hc1; repeat clear h84; repeat clear hyl2; repeat clear eL; repeat clear lD2; repeat clear hcv; repeat clear e6; repeat clear hlD1; repeat clear hlD2; repeat clear hcl)
                  (repeat clear hD2; repeat clear sub2; repeat clear hyl3; repeat clear hs3; repeat clear hy3; repeat clear all1; repeat clear all2; repeat clear tr6; repeat clear offs; repeat clear hItr; repeat clear hDir)
                  (repeat clear e7; repeat clear hD2b; repeat clear h84b; repeat clear off84; repeat clear hIt7; repeat clear hDi7; repeat clear hyl7; repeat clear hs7; repeat clear hy7; repeat clear hwt; repeat clear htl; repeat clear h84')
                  (repeat clear hfr; repeat clear hXP; repeat clear hsg; repeat clear hLF; repeat clear fr9; repeat clear hcb2; repeat clear hcb1; repeat clear h92; repeat clear h91; repeat clear k1; repeat clear k2; repeat clear k3)
                  (repeat clear offc; repeat clear hLF8; repeat clear hXP8; repeat clear h81; repeat clear e10; repeat clear fr10; repeat clear up10; repeat clear hD10; repeat clear hLF10; repeat clear hXP10; repeat clear hl10; repeat clear hne10)
                  (repeat clear hXPG; repeat clear hXPd; repeat clear hD2Xd; repeat clear hD2XG; repeat clear hcd1; repeat clear hcd2; repeat clear hIt10; repeat clear hDi10; repeat clear hDXd; repeat clear hDXG; repeat clear hTX; repeat clear hXxG)
                  (repeat clear hci1; repeat clear hyl11; repeat clear hs11; repeat clear hcvl; repeat clear m11; repeat clear m12; repeat clear m13; repeat clear m14; repeat clear hcell1; repeat clear hcell2; repeat clear offs11; repeat clear hw11)
                  (repeat clear hIt11; repeat clear HL11; repeat clear hsg11; repeat clear HLr; repeat clear hPr; repeat clear hDi11; repeat clear hDi12; repeat clear hyl12; repeat clear hs12; repeat clear hy12; repeat clear hok; repeat clear hy11)
                  (repeat clear hw12; repeat clear hl13; repeat clear sub12; repeat clear sub13; repeat clear hci13; repeat clear hcl13; repeat clear hP13; repeat clear hw13; repeat clear hDi13; repeat clear hIt13; repeat clear HL13; repeat clear hx13)
                  (repeat clear hd13; repeat clear hclen; repeat clear hxP; repeat clear hdP; repeat clear hclP; repeat clear hciP; repeat clear hwP; repeat clear hDiP; repeat clear hcu; repeat clear hcu1; repeat clear hLbut; repeat clear hTP13)
                  (repeat clear hpw; repeat clear hnr; repeat clear hbase; repeat clear hndi; repeat clear hesi; repeat clear hnli; repeat clear hwn; repeat clear hnlen; repeat clear z1; repeat clear z2; repeat clear z3)
                  (repeat clear z4; repeat clear off14; repeat clear gnl14; repeat clear gbase14; repeat clear hX15; repeat clear hD15; repeat clear hci15; repeat clear hcl15; repeat clear hnl15; repeat clear hnpos; repeat clear hnlP; repeat clear hn5)
                  (repeat clear hyl16; repeat clear hs16; repeat clear hq16; repeat clear hPi; repeat clear hRl; repeat clear gP14; repeat clear hP15; repeat clear hpn; repeat clear N16; repeat clear y1; repeat clear y2; repeat clear y3)
                  (repeat clear y4; repeat clear hc16a; repeat clear hc16b; repeat clear off16; repeat clear hTP; repeat clear hRw16; repeat clear hDi16; repeat clear hIt16; repeat clear hq16b; repeat clear gbase16; repeat clear hs18; repeat clear hc18a)
                  (repeat clear hc18b; repeat clear N19; repeat clear x1; repeat clear x2; repeat clear x3; repeat clear x4; repeat clear off18; repeat clear hDi18; repeat clear hIt18; repeat clear hq18; repeat clear gbase18; repeat clear e20)
                  (repeat clear hDi20; repeat clear hci20; repeat clear hIt20; repeat clear hcl20; repeat clear hP20; repeat clear gbase20; repeat clear hT13; repeat clear hTP84; repeat clear hs21; repeat clear hcl21; repeat clear v1)
                  (repeat clear v2; repeat clear v3; repeat clear v4; repeat clear offc24; repeat clear gb24; repeat clear HL24; repeat clear hl1)
                  generalize lnTo (cellsOf ns) = Lz at hLF24 hd24 htx
                  (try ((with_reducible show wpAny _ _ (execs _ _) _ _ _); (try dsimp only); k_fold))
                  k_steps
                  refine Hold.intro ?_
                  (rename News _ _ _ _ => N26)
                  refine tup_ne (ds := [.int Iv, .int Iv]) N26 (.tail _ (.head _)) rfl rfl (.cons (di ?_) (.cons (di ?_) .nil)) (.head _) rfl rfl (.cons (di ?_) (.cons (di ?_) .nil)) (kqd_ints _ _) (by ktr_units) ?_
                  · rfl
                  · exact hl2
                  · exact hsm
                  · exact hsm
                  have hmk := MarkTok.intro
                  (try ((with_reducible show wpAny _ _ (execs _ _) _ _ _); (try dsimp only); k_fold))
                  k_steps
                  clear hmk
                  refine Hold.intro ?_
                  (rename Fr _ _ _ _ => F26)
                  refine' callWith_K0 (Frag.In.keeps X1 (Fr.keep F26)) ?k2 ?_
                  case k2 => k_is
                  k_whole
                  (refine' wpAny_call (Ctr.use (f := 42) ?B ?F ?X ?N ?T ?hf ?hk ?hd ?hu (c_get0 ?q0 ?q1 ?q2) ?_); (case B => k_asm); (case F => k_asm); (case X => k_asm); (case N => k_asm); (case T => k_asm); (case hf => first | exact rfl | assumption); (case hk => first | exact rfl | assumption)); (case q0 => exact LexF.mono hLF24 (fun _ h8 => by k_mem)); (case q1 => k_mem); (case q2 => assumption); (case hd => ktr_room); (case hu => ktr_units)
                  (intro r9 n9 h9 tk9 P9 F9 N9)
                  dsimp only
                  (rename (∃ t, _) ∧ _ => P9)
                  obtain ⟨⟨t27, er9⟩, hs27⟩ := P9
                  subst er9
                  (rename News _ _ _ _ => N27)
                  first | (refine e0a5 (pull N27 (hs27 _ (.tail _ (.tail _ (.head _))))) ?_; intro r28 N28 u1 u2 u3) | (refine e1a4 (pull N27 (hs27 _ (.tail _ (.tail _ (.head _))))) ?_; intro r28 N28 u1 u2 u3) | (refine e2a3 (pull N27 (hs27 _ (.tail _ (.tail _ (.head _))))) ?_; intro r28 N28 u1 u2 u3) | (refine e3a2 (pull N27 (hs27 _ (.tail _ (.tail _ (.head _))))) ?_; intro r28 N28 u1 u2 u3) | (refine e4a1 (pull N27 (hs27 _ (.tail _ (.tail _ (.head _))))) ?_; intro r28 N28 u1 u2 u3) | obtain ⟨r28, N28, u1, u2, u3⟩ := pull N27 (hs27 _ (.tail _ (.tail _ (.head _))))
                  have hT28 := u2 _ (hs27 _ (.tail _ (.tail _ (.tail _ (.tail _ hT24))))) (Nat.ne_of_lt (Nat.lt_succ_of_lt (Nat.lt_succ_of_lt hl0)))
                  have hx28 := u2 _ (hs27 _ (.tail _ (.tail _ (.tail _ (.tail _ hx24))))) hxc
                  have hd28 := u2 _ (hs27 _ (.tail _ (.tail _ (.tail _ (.tail _ hd24))))) hdc
                  clear N27 N26
                  (try ((with_reducible show wpAny _ _ (execs _ _) _ _ _); (try dsimp only); k_fold))
                  k_steps
                  refine Hold.intro ?_
                  (rename News _ _ _ _ => N29)
                  refine tup_eq (ds := [.str (Str.ofString ""), .int (1 + Lz)]) N29 (.tail _ (.head _)) rfl rfl (.cons (.str _ _) (.cons (di rfl) .nil)) (.head _) rfl rfl (.cons (.str _ _) (.cons (di ?_) .nil)) (kqd_si _) (by ktr_units) ?_
                  · rw [htx]
                  (rename News _ _ _ _ => N30)
                  (rename Fr _ _ _ _ => F30)
                  exact ⟨goodW_bool F30 (by assumption) (law_none _ _) (law_true _ _), GrownAt.of N30 (by k_mem), True.intro⟩)
end
end
end Mine
theorem PySem.Challenge.cw_wn0055_01_holds : PySem.Challenge.rw_wn0055_01.Holds :=
  Mine.t0
